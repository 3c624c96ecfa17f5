/- A region that draws its order and ends in one forced operation: loads are taken first where their cells hold until that operation comes up. -/
import Derived.Test.YtimaobpcefgdkaaFmtErrP
import Derived.OrdersHeld
import Derived.StillTail
namespace Go.Proofs.YtimaobpcefgdkaaFmt
open Go.RowKit
section
variable {P : Program} {ops : Array Oper} {Q : Exit → Act → World → Prop} {md : Region.Mode} {S : World → Prop} {n : Nat}
/-- Whatever order is picked, and S holds behind every operation ahead of number n. -/
def wpAnyE (P : Program) (md : Region.Mode) (ops : Array Oper) (Q : Exit → Act → World → Prop) (S : World → Prop) (n : Nat) : Nat → Array Bool → Act → World → Prop
  | 0, listed, a, w => Region.ready md ops listed = [] ∧ Q .normal a w
  | fuel + 1, listed, a, w =>
    (Region.ready md ops listed = [] → Q .normal a w) ∧
    ∀ i ∈ Region.ready md ops listed, wpOp P ops Q i (fun a' w' => (i < n → S w') ∧ wpAnyE P md ops Q S n fuel (listed.setIfInBounds i true) a' w') a w
theorem wpAny_of_E : ∀ (fuel : Nat) (listed : Array Bool) (a : Act) (w : World), wpAnyE P md ops Q S n fuel listed a w → wpAny P md ops Q fuel listed a w
  | 0, _, _, _, h => h
  | fuel + 1, _, _, _, h => ⟨h.1, fun i hi => wpOp_mono (fun a' w' h' => wpAny_of_E fuel _ a' w' h'.2) (h.2 i hi)⟩
/-- The operations from n on wait for all that stand ahead; what has come up so far. -/
structure EInv (md : Region.Mode) (ops : Array Oper) (n : Nat) (listed : Array Bool) : Prop where
  inv : HeadInv md ops n listed
  sel : Region.noSelect ops = true
  sink : Region.sinkB md ops n = true
  chain : Region.chainB md ops n = true
  lt : n < ops.size
theorem wpAnyE_first {i : Nat} {oi : Oper} {v : Value} (hi : ops[i]? = some oi)
    (hQ : ∀ c a w, Q (.panic c) (a.put oi.dst v) w → Q (.panic c) a w) (hin : i < n) :
    ∀ (fuel : Nat) (listed : Array Bool) (a : Act) (w : World), EInv md ops n listed →
      (∀ j oj, ops[j]? = some oj → j ≠ i → listed.getD j true = false → (∀ e ∈ oj.after, Region.binds md e = true → e.on ≠ i) → oi.apart ops oj = true) →
      i ∈ Region.ready md ops listed → YieldsIf P ops S oi v a → S w →
      wpAnyE P md ops Q S n fuel (listed.setIfInBounds i true) (a.put oi.dst v) w → wpAnyE P md ops Q S n (fuel + 1) listed a w := by
  intro fuel
  induction fuel with
  | zero =>
    intro listed a w _ _ hr hy hS H
    refine ⟨fun h => (by rw [h] at hr; cases hr), fun j hj => ?_⟩
    by_cases hji : j = i
    · subst hji; exact hy.wpOp hi hS ⟨fun _ => hS, H⟩
    · have := ready_mono hj hji
      rw [H.1] at this
      cases this
  | succ fuel ih =>
    intro listed a w inv hfree hr hy hS H
    have hsel := Region.noSelect_spec inv.sel
    refine ⟨fun h => (by rw [h] at hr; cases hr), fun j hj => ?_⟩
    have hjn : j < n := by
      rcases Nat.lt_or_ge j n with h | h
      · exact h
      · exact absurd hj (tail_waits inv.sink inv.chain inv.lt inv.inv _ i rfl hin (mem_ready.1 hr).1 j h)
    by_cases hji : j = i
    · subst hji; exact hy.wpOp hi hS ⟨fun _ => hS, H⟩
    · have h1 := H.2 j (ready_mono hj hji)
      obtain ⟨hjun, oj, hoj, hall⟩ := mem_ready.1 hj
      have hnot : ∀ e ∈ oj.after, Region.binds md e = true → e.on ≠ i := fun e he hb heq => by
        have h1 := hall e he hb
        have h0 := (mem_ready.1 hr).1
        rw [heq] at h1
        rcases Nat.lt_or_ge i listed.size with h' | h'
        · simp [h'] at h0 h1; rw [h0] at h1; cases h1
        · simp [Array.getElem?_eq_none h'] at h1
      have h2 := wpOp_putIf hoj (hfree j oj hoj hji hjun hnot) (fun cs b => hsel i oi cs b hi) (fun cs b => hsel j oj cs b hoj) hQ hy h1
      have hfree' : ∀ k ok, ops[k]? = some ok → k ≠ i → (listed.setIfInBounds j true).getD k true = false →
          (∀ e ∈ ok.after, Region.binds md e = true → e.on ≠ i) → oi.apart ops ok = true := fun k ok hk hki hun hno => by
        refine hfree k ok hk hki ?_ hno
        by_cases hjk : j = k
        · subst hjk; exact hjun
        · rw [getD_set_ne true hjk] at hun; exact hun
      refine wpOp_mono (fun a' w' h3 => ⟨h3.2.1, ih (listed.setIfInBounds j true) a' w' ⟨inv.inv.set hj hjn, inv.sel, inv.sink, inv.chain, inv.lt⟩ hfree' (ready_mono hr (Ne.symm hji)) h3.1 (h3.2.1 hjn) ?_⟩) h2
      rw [Array.setIfInBounds_comm _ _ hji]
      exact h3.2.2
/-- Take number i first. -/
theorem wpAnyE_take {l : List Oper} (i : Nat) {oi : Oper} (v : Value) {fuel : Nat} {listed : Array Bool} {a : Act} {w : World} (hi : l[i]? = some oi)
    (hf : Region.free md l.toArray listed i = true) (hr : (Region.ready md l.toArray listed).contains i = true) (hin : i < n)
    (hQ : ∀ c a w, Q (.panic c) (a.put oi.dst v) w → Q (.panic c) a w) (hy : YieldsIf P l.toArray S oi v a) (hS : S w) (inv : EInv md l.toArray n listed)
    (h : EInv md l.toArray n (listed.setIfInBounds i true) → wpAnyE P md l.toArray Q S n fuel (listed.setIfInBounds i true) (a.put oi.dst v) w) : wpAnyE P md l.toArray Q S n (fuel + 1) listed a w := by
  have hi' : l.toArray[i]? = some oi := by simpa using hi
  have hr' : i ∈ Region.ready md l.toArray listed := by simpa using hr
  exact wpAnyE_first hi' hQ hin fuel listed a w inv (Region.free_spec hi' hf) hr' hy hS (h ⟨inv.inv.set hr' hin, inv.sel, inv.sink, inv.chain, inv.lt⟩)
/-- Number i alone may come up, and it is ahead of n. -/
theorem wpAnyE_one {l : List Oper} (i : Nat) {oi : Oper} {fuel : Nat} {listed : Array Bool} {a : Act} {w : World} (hi : l[i]? = some oi)
    (hr : Region.ready md l.toArray listed = [i]) (hin : i < n) (inv : EInv md l.toArray n listed)
    (h : ∀ K' : Act → World → Prop, (∀ a w, S w → (S w → EInv md l.toArray n (listed.setIfInBounds i true) → wpAnyE P md l.toArray Q S n fuel (listed.setIfInBounds i true) a w) → K' a w) →
      if Region.wanted oi (yielded l.toArray a.tmps) = true then Oper.wp P oi a w K' Q else K' (a.put oi.dst undef) w) : wpAnyE P md l.toArray Q S n (fuel + 1) listed a w := by
  have hi' : l.toArray[i]? = some oi := by simpa using hi
  have hr' : i ∈ Region.ready md l.toArray listed := by rw [hr]; simp
  refine ⟨fun h0 => (by rw [h0] at hr; cases hr), fun j hj => ?_⟩
  rw [hr] at hj
  obtain rfl : j = i := by simpa using hj
  exact wpOp_step hi' (fun K' hK => h K' (fun a w hS hW => hK a w ⟨fun _ => hS, hW hS ⟨inv.inv.set hr' hin, inv.sel, inv.sink, inv.chain, inv.lt⟩⟩))
/-- The last operation. -/
theorem wpAnyE_last {l : List Oper} {oi : Oper} {listed : Array Bool} {a : Act} {w : World} {fuel : Nat} (hi : l[n]? = some oi)
    (hr : Region.ready md l.toArray listed = [n]) (hr2 : Region.ready md l.toArray (listed.setIfInBounds n true) = [])
    (h : ∀ K' : Act → World → Prop, (∀ a w, Q .normal a w → K' a w) → if Region.wanted oi (yielded l.toArray a.tmps) = true then Oper.wp P oi a w K' Q else K' (a.put oi.dst undef) w) :
    wpAnyE P md l.toArray Q S n (fuel + 1) listed a w := by
  have hi' : l.toArray[n]? = some oi := by simpa using hi
  refine ⟨fun h0 => (by rw [h0] at hr; cases hr), fun j hj => ?_⟩
  rw [hr] at hj
  obtain rfl : j = n := by simpa using hj
  refine wpOp_step hi' (fun K' hK => h K' (fun a w hq => hK a w ⟨fun h0 => absurd h0 (Nat.lt_irrefl _), ?_⟩))
  cases fuel with
  | zero => exact ⟨hr2, hq⟩
  | succ f => exact ⟨fun _ => hq, by rw [hr2]; simp⟩
/-- The beginning. -/
theorem wp_region_E {l : List Oper} (n : Nat) {id : Nat} {a : Act} {w : World} (hm : P.follows .mixedOrders = true) (hB : (Region.noSelect l.toArray && decide (n < l.length) && Region.sinkB .any l.toArray n && Region.chainB .any l.toArray n) = true) (hS : S w.drew)
    (h : EInv .any l.toArray n (Array.replicate l.length false) → S w.drew → wpAnyE P .any l.toArray Q S n l.length (Array.replicate l.length false) a w.drew) : (Code.region id l.toArray true).wp P Q a w := by
  simp only [Bool.and_eq_true, decide_eq_true_eq] at hB
  obtain ⟨⟨⟨h1, h2⟩, h3⟩, h4⟩ := hB
  have h0 := h ⟨⟨by simp, fun j oj _ hl => (by rw [getD_replicate_false] at hl; cases hl), fun t _ ht => getD_in (by simpa using ht) (getD_replicate_false _ _)⟩, h1, h3, h4, by simpa using h2⟩ hS
  refine wp_region_any hm ?_
  have h5 := wpAny_of_E _ _ _ _ h0
  simpa using h5
end
end Go.Proofs.YtimaobpcefgdkaaFmt
