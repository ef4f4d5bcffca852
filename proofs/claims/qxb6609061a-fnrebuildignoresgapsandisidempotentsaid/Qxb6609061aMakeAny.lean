/-
  ZZnewWaitLine at any five slices of n numbers: nil where n = 0.
-/
import Derived.Test.Qxb6609061aMake
import Derived.Test.Qxb6609061aCount
namespace Go.Proofs.Qxb6609061a.Line
open Go.RowKit

set_option maxHeartbeats 1600000 in
set_option maxRecDepth 100000 in
theorem make_none (T : Nat → Task) (a1 a2 a3 a4 a5 : Option Addr) (c1 c2 c3 c4 c5 : Nat) (la : Option Addr) (ll lc : Nat) (held waiting first : Int) (w : World) :
    Calls Try.prog 9 #[.slice a1 0 c1, .slice a2 0 c2, .slice a3 0 c3, .slice a4 0 c4, .slice a5 0 c5, .slice la ll lc, .int .i64 held, .int .i64 waiting, .int .i64 first] w fun e w' => e = .returned (.pointer (some ⟨w.heap.size, 0, none⟩)) ∧ Below w.heap.size w w' ∧ ∃ pa g cap pb, Line w' w.heap.size w'.heap.size w.heap.size pa g cap pb 0 T (.slice la ll lc) held waiting first := by
  go_enter Try.func9, Try.ntmps9
  go_wp2
  go_loopw [30] (fun iv wr => iv = .int .i64 0 ∧ ∃ pa cap pb, Part w wr pa cap pb (pgs 0) 0 T (.slice la ll lc) held waiting first) (fun iv _ => 0)
  case atStart => exact ⟨rfl, none, 0, fun _ => 0, Part.start w _ T _ held waiting first⟩
  case round =>
    obtain ⟨rfl, pa, cap, pb, P0⟩ := hrel
    obtain ⟨g, hL⟩ := P0.line
    have bel := P0.bel
    have siz := P0.siz
    have e1 := P0.h1
    have f1 : wr.frozen? ⟨w.heap.size, 1, none⟩ = false := there_frozen P0.qth (Nat.zero_le _) (by decide)
    have hs : (wr.setCell ⟨w.heap.size, 1, none⟩ (.int .i64 0)).heap.size = wr.heap.size := size_setCell _ _ _
    have bel2 : Below w.heap.size w (wr.setCell ⟨w.heap.size, 1, none⟩ (.int .i64 0)) := bel.setCell (Nat.le_refl _) _
    clear P0
    go_wp2
    go_ret
    exact ⟨rfl, bel2, pa, g, cap, pb, by rw [hs]; exact hL⟩

theorem make_any (n : Nat) (hn : n ≤ 65536) (T : Nat → Task) (a1 a2 a3 a4 a5 : Option Addr) (c1 c2 c3 c4 c5 : Nat) (la : Option Addr) (ll lc : Nat) (held waiting first : Int) (w : World)
    (I1 : Arr w a1 n fun j => (T j).id) (I2 : Arr w a2 n fun j => (T j).submit) (I3 : Arr w a3 n fun j => (T j).work) (I4 : Arr w a4 n fun j => (T j).count) (I5 : Arr w a5 n fun j => (T j).pushed) :
    Calls Try.prog 9 #[.slice a1 n c1, .slice a2 n c2, .slice a3 n c3, .slice a4 n c4, .slice a5 n c5, .slice la ll lc, .int .i64 held, .int .i64 waiting, .int .i64 first] w fun e w' => e = .returned (.pointer (some ⟨w.heap.size, 0, none⟩)) ∧ Below w.heap.size w w' ∧ ∃ pa g cap pb, Line w' w.heap.size w'.heap.size w.heap.size pa g cap pb n T (.slice la ll lc) held waiting first := by
  by_cases h0 : n = 0
  · subst h0
    exact make_none T a1 a2 a3 a4 a5 c1 c2 c3 c4 c5 la ll lc held waiting first w
  · rcases I1 with h | ⟨b1, rfl, I1⟩
    · exact absurd h h0
    rcases I2 with h | ⟨b2, rfl, I2⟩
    · exact absurd h h0
    rcases I3 with h | ⟨b3, rfl, I3⟩
    · exact absurd h h0
    rcases I4 with h | ⟨b4, rfl, I4⟩
    · exact absurd h h0
    rcases I5 with h | ⟨b5, rfl, I5⟩
    · exact absurd h h0
    exact make_cells n hn T b1 b2 b3 b4 b5 c1 c2 c3 c4 c5 la ll lc held waiting first w I1 I2 I3 I4 I5

end Go.Proofs.Qxb6609061a.Line
