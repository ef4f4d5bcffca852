/-
  A region that draws its order, whose last operation waits for all the others (a store into a cell that the region itself has read): what the loads read need hold behind every operation but that last one.
  The law beneath is the kit's own (Derived.OrdersHeld), said once more with one operation let go.
-/
import Derived.OrdersHeld
import Derived.WalkKit
import Derived.Deep.RegionHeld
namespace Go.Proofs.Qxb6609061a.Last
open Go

section
variable {P : Program} {ops : Array Oper} {Q : Exit → Act → World → Prop} {S : World → Prop} {l : Nat}

/-- Whatever order is picked from here on, and S holds behind every operation but number l. -/
def wpL (P : Program) (ops : Array Oper) (Q : Exit → Act → World → Prop) (S : World → Prop) (l : Nat) : Nat → Array Bool → Act → World → Prop
  | 0, listed, a, w => Region.ready .any ops listed = [] ∧ Q .normal a w
  | fuel + 1, listed, a, w =>
    (Region.ready .any ops listed = [] → Q .normal a w) ∧
    ∀ i ∈ Region.ready .any ops listed, wpOp P ops Q i (fun a' w' => (i ≠ l → S w') ∧ wpL P ops Q S l fuel (listed.setIfInBounds i true) a' w') a w

theorem wpAny_of_last : ∀ (fuel : Nat) (listed : Array Bool) (a : Act) (w : World), wpL P ops Q S l fuel listed a w → wpAny P .any ops Q fuel listed a w
  | 0, _, _, _, h => h
  | fuel + 1, _, _, _, h => ⟨h.1, fun i hi => wpOp_mono (fun a' w' h' => wpAny_of_last fuel _ a' w' h'.2) (h.2 i hi)⟩

/-- Number l waits for number i. -/
def waitsB (ops : Array Oper) (l i : Nat) : Bool := ((ops[l]?).map fun o => o.after.any fun e => Region.binds .any e && e.on == i).getD false

theorem last_waits {i : Nat} (h : waitsB ops l i = true) {listed : Array Bool} (hr : l ∈ Region.ready .any ops listed) : listed.getD i false = true := by
  obtain ⟨_, o, ho, hall⟩ := mem_ready.1 hr
  simp only [waitsB, ho, Option.map_some, Option.getD_some] at h
  obtain ⟨e, he, hb⟩ := Array.any_eq_true'.1 h
  simp only [Bool.and_eq_true, beq_iff_eq] at hb
  have := hall e he hb.1
  rwa [hb.2] at this

theorem wpL_first {i : Nat} {oi : Oper} {v : Value} (hl : waitsB ops l i = true) (hi : ops[i]? = some oi) (hsel : ∀ (j : Nat) (o : Oper) cs b, ops[j]? = some o → o.op ≠ .select cs b)
    (hQ : ∀ c a w, Q (.panic c) (a.put oi.dst v) w → Q (.panic c) a w) :
    ∀ (fuel : Nat) (listed : Array Bool) (a : Act) (w : World),
      (∀ j oj, ops[j]? = some oj → j ≠ i → listed.getD j true = false → (∀ e ∈ oj.after, Region.binds .any e = true → e.on ≠ i) → oi.apart ops oj = true) →
      i ∈ Region.ready .any ops listed → YieldsIf P ops S oi v a → S w →
      wpL P ops Q S l fuel (listed.setIfInBounds i true) (a.put oi.dst v) w → wpL P ops Q S l (fuel + 1) listed a w := by
  intro fuel
  induction fuel with
  | zero =>
    intro listed a w _ hr hy hS H
    refine ⟨fun h => (by rw [h] at hr; cases hr), fun j hj => ?_⟩
    by_cases hji : j = i
    · subst hji; exact hy.wpOp hi hS ⟨fun _ => hS, H⟩
    · have := ready_mono hj hji
      rw [H.1] at this
      cases this
  | succ fuel ih =>
    intro listed a w hfree hr hy hS H
    refine ⟨fun h => (by rw [h] at hr; cases hr), fun j hj => ?_⟩
    by_cases hji : j = i
    · subst hji; exact hy.wpOp hi hS ⟨fun _ => hS, H⟩
    · have hun := (mem_ready.1 hr).1
      have hun' : listed.getD i false = false := by
        rcases Nat.lt_or_ge i listed.size with h' | h'
        · simp [h'] at hun ⊢; exact hun
        · simp [Array.getElem?_eq_none h'] at hun
      have hjl : j ≠ l := fun e => by
        subst e
        have := last_waits hl hj
        rw [hun'] at this
        cases this
      have h1 := H.2 j (ready_mono hj hji)
      obtain ⟨hjun, oj, hoj, hall⟩ := mem_ready.1 hj
      have hnot : ∀ e ∈ oj.after, Region.binds .any e = true → e.on ≠ i := fun e he hb heq => by
        have := hall e he hb
        rw [heq, hun'] at this
        cases this
      have h2 := wpOp_putIf hoj (hfree j oj hoj hji hjun hnot) (fun cs b => hsel i oi cs b hi) (fun cs b => hsel j oj cs b hoj) hQ hy h1
      have hfree' : ∀ k ok, ops[k]? = some ok → k ≠ i → (listed.setIfInBounds j true).getD k true = false →
          (∀ e ∈ ok.after, Region.binds .any e = true → e.on ≠ i) → oi.apart ops ok = true := fun k ok hk hki hun hno => by
        refine hfree k ok hk hki ?_ hno
        by_cases hjk : j = k
        · subst hjk; exact hjun
        · rw [getD_set_ne true hjk] at hun; exact hun
      refine wpOp_mono (fun a' w' h3 => ⟨fun _ => h3.2.1 hjl, ih (listed.setIfInBounds j true) a' w' hfree' (ready_mono hr (Ne.symm hji)) h3.1 (h3.2.1 hjl) ?_⟩) h2
      rw [Array.setIfInBounds_comm _ _ hji]
      exact h3.2.2

/-- Take number i first. -/
theorem wpL_take (i : Nat) {oi : Oper} {v : Value} {fuel : Nat} {listed : Array Bool} {a : Act} {w : World} (hi : ops[i]? = some oi)
    (hl : waitsB ops l i = true) (hs : Region.noSelect ops = true) (hf : Region.free .any ops listed i = true) (hr : (Region.ready .any ops listed).contains i = true)
    (hQ : ∀ c a w, Q (.panic c) (a.put oi.dst v) w → Q (.panic c) a w) (hy : YieldsIf P ops S oi v a) (hS : S w)
    (h : wpL P ops Q S l fuel (listed.setIfInBounds i true) (a.put oi.dst v) w) : wpL P ops Q S l (fuel + 1) listed a w :=
  wpL_first hl hi (Region.noSelect_spec hs) hQ fuel listed a w (Region.free_spec hi hf) (by simpa using hr) hy hS h

/-- One alone may come up, and it is carried out; S is shown anew behind it. -/
theorem wpL_one (i : Nat) {o : Oper} {fuel : Nat} {listed : Array Bool} {a : Act} {w : World} (hi : ops[i]? = some o) (hg : o.guard = none) (hr : Region.ready .any ops listed = [i])
    (h : ∀ K : Act → World → Prop, (∀ a' w', S w' → wpL P ops Q S l fuel (listed.setIfInBounds i true) a' w' → K a' w') → o.wp P a w K Q) : wpL P ops Q S l (fuel + 1) listed a w := by
  refine ⟨fun h0 => (by rw [hr] at h0; cases h0), fun j hj => ?_⟩
  rw [hr] at hj
  obtain rfl : j = i := by simpa using hj
  unfold wpOp
  simp only [hi, Region.wanted, hg, if_true]
  exact .inl (h _ (fun a' w' hS hw => ⟨fun _ => hS, hw⟩))

/-- The last one alone is left: behind it the region is done. -/
theorem wpL_last {o : Oper} {fuel : Nat} {listed : Array Bool} {a : Act} {w : World} (hi : ops[l]? = some o) (hg : o.guard = none) (hr : Region.ready .any ops listed = [l]) (hd : Region.ready .any ops (listed.setIfInBounds l true) = [])
    (h : ∀ K : Act → World → Prop, (∀ a' w', Q .normal a' w' → K a' w') → o.wp P a w K Q) : wpL P ops Q S l (fuel + 1) listed a w := by
  refine ⟨fun h0 => (by rw [hr] at h0; cases h0), fun j hj => ?_⟩
  rw [hr] at hj
  obtain rfl : j = l := by simpa using hj
  unfold wpOp
  simp only [hi, Region.wanted, hg, if_true]
  refine .inl (h _ (fun a' w' hq => ⟨fun h => absurd rfl h, ?_⟩))
  cases fuel with
  | zero => exact ⟨hd, hq⟩
  | succ f => exact ⟨fun _ => hq, by rw [hd]; simp⟩

/-- The beginning. -/
theorem wp_region_last {id : Nat} (l : Nat) (S : World → Prop) {a : Act} {w : World} (hm : P.follows .mixedOrders = true) (hS : S w.drew)
    (h : S w.drew → wpL P ops Q S l ops.size (Array.replicate ops.size false) a w.drew) : (Code.region id ops true).wp P Q a w :=
  wp_region_any hm (wpAny_of_last _ _ _ _ (h hS))

end
end Go.Proofs.Qxb6609061a.Last
