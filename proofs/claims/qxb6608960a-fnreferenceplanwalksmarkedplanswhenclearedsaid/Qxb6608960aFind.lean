import Derived.Test.Qxb6608960aBuild
import Derived.Lib.QuietBelow
namespace Go.Proofs.Qxb6608960a.Plans
open Go.RowKit

/-- The first place below n that is marked; -1 where there is none. -/
def idx (m : Nat → Bool) (n : Nat) : Int :=
  match (List.range n).find? m with
  | some i => (i : Int)
  | none => -1

theorem idx_none {m : Nat → Bool} {n : Nat} (h : ∀ j, j < n → m j = false) : idx m n = -1 := by
  unfold idx
  rw [List.find?_eq_none.2 (fun x hx => by simp [h x (List.mem_range.1 hx)])]

theorem idx_hit {m : Nat → Bool} {n k : Nat} (hk : k < n) (hm : m k = true) (h : ∀ j, j < k → m j = false) : idx m n = k := by
  unfold idx
  have : (List.range n).find? m = some k := by
    rw [List.find?_range_eq_some]
    exact ⟨hm, List.mem_range.2 hk, fun j hj => by simp [h j hj]⟩
  rw [this]

theorem idx_congr {m m' : Nat → Bool} {n : Nat} (h : ∀ k, k < n → m k = m' k) : idx m n = idx m' n := by
  unfold idx
  have : (List.range n).find? m = (List.range n).find? m' := by
    have aux : ∀ l : List Nat, (∀ x ∈ l, m x = m' x) → l.find? m = l.find? m' := by
      intro l
      induction l with
      | nil => intro _; rfl
      | cons a l ih =>
        intro hl
        rw [List.find?_cons, List.find?_cons, hl a (by simp), ih (fun x hx => hl x (by simp [hx]))]
    exact aux _ (fun x hx => h x (List.mem_range.1 hx))
  rw [this]

theorem idx_cases (m : Nat → Bool) (n : Nat) : (idx m n = -1 ∧ ∀ j, j < n → m j = false) ∨ ∃ k, k < n ∧ idx m n = (k : Int) ∧ m k = true ∧ ∀ j, j < k → m j = false := by
  induction n with
  | zero => exact .inl ⟨idx_none (fun j hj => absurd hj (Nat.not_lt_zero _)), fun j hj => absurd hj (Nat.not_lt_zero _)⟩
  | succ n ih =>
    by_cases hall : ∀ j, j < n → m j = false
    · cases hm : m n with
      | true => exact .inr ⟨n, Nat.lt_succ_self _, idx_hit (Nat.lt_succ_self _) hm hall, hm, hall⟩
      | false =>
        have : ∀ j, j < n + 1 → m j = false := fun j hj => by
          by_cases e : j = n
          · rw [e]; exact hm
          · exact hall j (by omega)
        exact .inl ⟨idx_none this, this⟩
    · rcases ih with ⟨_, h⟩ | ⟨k, hk, _, hm, h⟩
      · exact absurd h hall
      · exact .inr ⟨k, by omega, idx_hit (by omega) hm h, hm, h⟩

theorem load64 {ops : Array Oper} {rest : List Oper} {op : Oper} {a : Act} {w : World} {Q : Exit → Act → World → Prop} (hgd : op.guard = none) (x : Operand) (ho : op.op = .load 64 x)
    (b o : Nat) (p : PlanD) (r : Option Addr) (hx : a.eval x = .pointer (some ⟨b, o, none⟩)) (hc : w.rangeAt b o (p.bs r))
    (h : wpList Try.prog ops Q rest (a.put op.dst (.agg #[.string p.id, .bool p.shop, .bool p.billed, .int .i64 p.billing, .int .i64 p.r0, .int .i64 p.r1, .int .i64 p.r2, .pointer r])) w) : wpList Try.prog ops Q (op :: rest) a w :=
  wpList_load_mid hgd 64 x ho b o hx (p.bs r) _ hc Try.underlying64 rfl info64 h

set_option maxHeartbeats 400000 in
theorem marked (p : PlanD) (r : Option Addr) (w : World) :
    Calls Try.prog 31 #[.agg #[.string p.id, .bool p.shop, .bool p.billed, .int .i64 p.billing, .int .i64 p.r0, .int .i64 p.r1, .int .i64 p.r2, .pointer r]] w fun e w' => e = .returned (.bool r.isSome) ∧ Below w.heap.size w w' := by
  cases r
  all_goals
    go_enter Try.func31, Try.ntmps31
    go_wp2
    go_ret
    exact ⟨rfl, (Below.refl _ _).alloc (Nat.le_refl _) _⟩

set_option maxHeartbeats 400000 in
theorem index_any (b n cap : Nat) (D : Nat → PlanD) (R : Nat → Option Addr) (w : World) (hn : n ≤ 4096) (hr : Row8 w b n D R) :
    Calls Try.prog 30 #[.slice (some ⟨b, 0, none⟩) n cap, .func (.func 31) #[] #[]] w fun e w' => e = .returned (.int .i64 (idx (fun k => (R k).isSome) n)) ∧ Below w.heap.size w w' := by
  go_enter Try.func30, Try.ntmps30
  go_wp2
  go_loopw [8] (fun i wr => ∃ k : Nat, k ≤ n ∧ i = .int .i64 k ∧ (∀ j, j < k → (R j).isSome = false) ∧ Below w.heap.size w wr) (fun i _ => n - (intOf i).toNat)
  case atStart => exact ⟨0, Nat.zero_le _, rfl, fun j hj => absurd hj (Nat.not_lt_zero _), Below.refl _ _⟩
  case round =>
    obtain ⟨k, hk, rfl, hno, hb⟩ := hrel
    by_cases hlt : k < n
    · have hl0 := hr.2 k hlt
      have hl := range_below hb (range_lt hl0 (by rw [PlanD.blen]; decide)) hl0
      have HN : Hid _ := hno
      clear hl0 hno hr
      cases hm : (R k).isSome
      · have HN' : Hid (∀ j, j < k + 1 → (R j).isSome = false) := fun j hj => by
          by_cases e : j = k
          · rw [e]; exact hm
          · exact HN.out j (by omega)
        go_wp2_with (first
          | (refine load64 rfl (.tmp 14) rfl b (k * 8) (D k) (R k) ?hx ?hc ?_; (case hx => (simp [Act.eval]; done)); (case hc => exact hl))
          | (go_at_call 31; refine (marked (D k) (R k) _).mono ?_; rintro e w1 ⟨rfl, hb1⟩))
        go_roundw
        case rel => exact ⟨k + 1, by omega, by go_num, HN'.out, hb.trans (hb1.mono hb.size)⟩
        case measure => simp [intOf]; omega
      · have HI : Hid (idx (fun k => (R k).isSome) n = k) := idx_hit hlt hm HN.out
        go_wp2_with (first
          | (refine load64 rfl (.tmp 14) rfl b (k * 8) (D k) (R k) ?hx ?hc ?_; (case hx => (simp [Act.eval]; done)); (case hc => exact hl))
          | (go_at_call 31; refine (marked (D k) (R k) _).mono ?_; rintro e w1 ⟨rfl, hb1⟩))
        go_ret
        rw [HI.out]
        exact ⟨rfl, hb.trans (hb1.mono hb.size)⟩
    · have HI : Hid (idx (fun k => (R k).isSome) n = -1) := idx_none (fun j hj => hno j (by omega))
      clear hno hr
      go_wp2
      go_ret
      rw [HI.out]
      exact ⟨rfl, hb⟩

/-- The pointer that referencePlan hands back, by the place found. -/
def refAt (b : Nat) (i : Int) : Option Addr := if i < 0 then none else some ⟨b, i.toNat * 8, none⟩
theorem refAt_none (b : Nat) : refAt b (-1) = none := rfl
theorem refAt_some (b k : Nat) : refAt b (k : Int) = some ⟨b, k * 8, none⟩ := by simp [refAt]

set_option maxHeartbeats 400000 in
theorem ref_any (bd b n : Nat) (D : Nat → PlanD) (R : Nat → Option Addr) (w : World) (hn : n ≤ 4096) (hd : w.cell? ⟨bd, 2, none⟩ = some (.slice (some ⟨b, 0, none⟩) n n)) (hr : Row8 w b n D R) :
    Calls Try.prog 27 #[.pointer (some ⟨bd, 0, none⟩)] w fun e w' => e = .returned (.pointer (refAt b (idx (fun k => (R k).isSome) n))) ∧ Below w.heap.size w w' := by
  have hbd := World.block_lt_of_cell? w _ hd
  rcases idx_cases (fun k => (R k).isSome) n with ⟨hi, _⟩ | ⟨k, hk, hi, _, _⟩
  · have HI : Hid _ := hi
    clear hi
    go_enter Try.func27, Try.ntmps27
    go_wp2_with (go_at_call 30; refine (index_any b n n D R _ hn ?hq).mono ?_; (case hq => exact hr); rintro e w1 ⟨rfl, hb1⟩; rw [HI.out])
    go_ret
    rw [HI.out, refAt_none]
    exact ⟨rfl, hb1⟩
  · have HI : Hid _ := hi
    clear hi
    go_enter Try.func27, Try.ntmps27
    go_wp2_with (go_at_call 30; refine (index_any b n n D R _ hn ?hq).mono ?_; (case hq => exact hr); rintro e w1 ⟨rfl, hb1⟩; rw [HI.out]; have hd1 := (hb1.cell hbd).trans hd)
    go_ret
    rw [HI.out, refAt_some]
    exact ⟨rfl, hb1⟩

set_option maxHeartbeats 400000 in
theorem zzref_any (bd b n : Nat) (D : Nat → PlanD) (R : Nat → Option Addr) (w : World) (hn : n ≤ 4096) (hd : w.cell? ⟨bd, 2, none⟩ = some (.slice (some ⟨b, 0, none⟩) n n)) (hr : Row8 w b n D R) :
    Calls Try.prog 20 #[.pointer (some ⟨bd, 0, none⟩)] w fun e w' => e = .returned (.pointer (refAt b (idx (fun k => (R k).isSome) n))) ∧ Below w.heap.size w w' := by
  go_enter Try.func20, Try.ntmps20
  go_wp2_with fail
  refine (ref_any bd b n D R _ hn hd hr).mono ?_
  rintro e w1 ⟨rfl, hb1⟩
  go_wp2
  go_ret
  exact ⟨rfl, hb1⟩

set_option maxHeartbeats 400000 in
theorem place_none (ad : Option Addr) (n cap : Nat) (w : World) :
    Calls Try.prog 19 #[.pointer none, .slice ad n cap] w fun e w' => e = .returned (.int .i64 (-1)) ∧ w' = w := by
  go_enter Try.func19, Try.ntmps19
  go_wp2
  go_ret
  exact ⟨rfl, rfl⟩

theorem info64s : (Try.prog.info? 64).map (fun i => i.size) = some 8 := by kernel_rfl

/-- Two pointers into one block of plans are equal just if their places are. -/
theorem eql_place (b o o' : Nat) (w : World) :
    (binOp .eql 56 (.pointer (some ⟨b, o, none⟩)) (.pointer (some ⟨b, o', none⟩))).run Try.prog w = .ok (.bool (o == o')) w := by
  cases hq : Try.prog.info? 64 with
  | none => have := info64s; simp [hq] at this
  | some i =>
    have hs : i.size = 8 := by have := info64s; simpa [hq] using this
    have hc : ((⟨b, o, none⟩ : Addr) == ⟨b, o', none⟩) = (o == o') := by
      rw [Bool.eq_iff_iff]; simp
    have h : ∀ d : Nat, (Op.equalIn (d + 1) 56 (.pointer (some ⟨b, o, none⟩)) (.pointer (some ⟨b, o', none⟩))).run Try.prog w = .ok (o == o') w := fun d => by
      simp [Op.equalIn, run_underlying Try.underlying56, sizeOf, typeInfo, hq, hs, sameAddr, hc]
    simp only [binOp]
    simp [Op.equal, Op.maxDepth, h 9999]

set_option maxHeartbeats 400000 in
theorem place_some (b n cap i : Nat) (hi : i < n) (hn : n ≤ 4096) (w : World) :
    Calls Try.prog 19 #[.pointer (some ⟨b, i * 8, none⟩), .slice (some ⟨b, 0, none⟩) n cap] w fun e w' => e = .returned (.int .i64 i) ∧ w' = w := by
  go_enter Try.func19, Try.ntmps19
  go_wp2
  go_loop [5] (fun t => ∃ k : Nat, k ≤ i ∧ t = .int .i64 k) (fun t => n - (intOf t).toNat)
  case atStart => exact ⟨0, Nat.zero_le _, rfl⟩
  case round =>
    obtain ⟨k, hk, rfl⟩ := hrel
    have hkn : k < n := by omega
    by_cases e : i = k
    · subst e
      have he := fun w => eql_place b (i * 8) (i * 8) w
      simp only [beq_self_eq_true] at he
      go_wp2
      go_ret
      exact ⟨rfl, rfl⟩
    · have he := fun w => eql_place b (i * 8) (k * 8) w
      have hne : (i * 8 == k * 8) = false := beq_eq_false_iff_ne.2 (by omega)
      simp only [hne] at he
      clear hne
      go_wp2
      go_round
      case rel => exact ⟨k + 1, by omega, by go_num⟩
      case measure => simp [intOf]; omega

theorem place_any (b n cap : Nat) (m : Nat → Bool) (hn : n ≤ 4096) (w : World) :
    Calls Try.prog 19 #[.pointer (refAt b (idx m n)), .slice (some ⟨b, 0, none⟩) n cap] w fun e w' => e = .returned (.int .i64 (idx m n)) ∧ w' = w := by
  rcases idx_cases m n with ⟨hi, _⟩ | ⟨k, hk, hi, _, _⟩
  · rw [hi, refAt_none]
    exact place_none _ n cap w
  · rw [hi, refAt_some]
    exact place_some b n cap k hk hn w

open Go.Sort

theorem row10_below {w w' : World} {b off n : Nat} {D : Nat → PlanD} (hb : Below w.heap.size w w') (h : Row10 w b off n D) : Row10 w' b off n D := fun k hk =>
  range_below hb (range_lt (h k hk) (by rw [PlanD.len]; decide)) (h k hk)

theorem row8_below {B : Nat} {w w' : World} {b n : Nat} {D : Nat → PlanD} {R : Nat → Option Addr} (hb : Below B w w') (hlt : b < B) (h : Row8 w b n D R) : Row8 w' b n D R :=
  ⟨there_below hb hlt h.1, fun k hk => range_below hb hlt (h.2 k hk)⟩

theorem new_cell (w : World) (c : Array Value) (t : TypeId) (j : Nat) : (w.alloc (.cells c t)).cell? ⟨w.heap.size, j, none⟩ = c[j]? := by
  unfold World.cell?
  rw [heap_new]
  rfl

/-- The two callees in a region that draws its order. -/
theorem q20 (W : World) (bd b n : Nat) (D : Nat → PlanD) (R : Nat → Option Addr) (hn : n ≤ 4096) (hlt : b < W.heap.size) (hd : W.cell? ⟨bd, 2, none⟩ = some (.slice (some ⟨b, 0, none⟩) n n)) (hr : Row8 W b n D R) (d : Nat) (os : Array Obj) :
    Calls Try.prog 20 #[.pointer (some ⟨bd, 0, none⟩)] (grow (redrawn W d) os) fun e w'' => e = .returned (.pointer (refAt b (idx (fun k => (R k).isSome) n))) ∧ ∃ p : Regrown, w'' = grow (redrawn W p.d) p.os :=
  Calls.regrown_of (zzref_any bd b n D R _ hn (cell_regrown hd d os) (row8_below (below_regrown W d os) hlt hr))

theorem q19 (W : World) (b n : Nat) (m : Nat → Bool) (hn : n ≤ 4096) (d : Nat) (os : Array Obj) :
    Calls Try.prog 19 #[.pointer (refAt b (idx m n)), .slice (some ⟨b, 0, none⟩) n n] (grow (redrawn W d) os) fun e w'' => e = .returned (.int .i64 (idx m n)) ∧ ∃ p : Regrown, w'' = grow (redrawn W p.d) p.os :=
  Calls.regrown_of ((place_any b n n m hn _).mono fun _ _ ⟨he, hw⟩ => ⟨he, by rw [hw]; exact Below.refl _ _⟩)

end Go.Proofs.Qxb6608960a.Plans
