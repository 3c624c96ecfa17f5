/- Rows that the call makes whole ('make([]T, n)') and fills by stores: what each place holds, as a function of the place. -/
import Derived.Test.YtnjdffnbkjjmeaaRow
import Derived.Laws.OwnMore
namespace Go.Proofs.Ytnjdffnbkjjmeaa
open Go.RowKit
def RowF (W : World) (base g : Nat) (e : TypeId) (n : Nat) (f : Nat → Value) : Prop :=
  ∃ xs : List Value, W.ownsRow base e 1 (.slice (some ⟨g, 0, none⟩) n n) n xs ∧ ∀ j, j < n → xs[j]? = some (f j)
theorem RowF.lt {W : World} {base g n : Nat} {e : TypeId} {f : Nat → Value} (h : RowF W base g e n f) : base ≤ g ∧ g < W.heap.size := by
  obtain ⟨xs, ho, _⟩ := h
  exact ho.lt g rfl
theorem RowF.cell {W : World} {base g n j : Nat} {e : TypeId} {f : Nat → Value} (h : RowF W base g e n f) (hj : j < n) : W.cell? ⟨g, j, none⟩ = some (f j) := by
  obtain ⟨xs, ho, he⟩ := h
  rw [ho.cellAt j (by omega), he j hj]
theorem RowF.frz {W : World} {base g n : Nat} {e : TypeId} {f : Nat → Value} (h : RowF W base g e n f) (j : Nat) : W.frozen? ⟨g, j, none⟩ = false := by
  obtain ⟨xs, ho, _⟩ := h
  exact ho.frozenAt j
theorem RowF.keep {W w1 : World} {base g n : Nat} {e : TypeId} {f : Nat → Value} (h : RowF W base g e n f) (hb : Below W.heap.size W w1) : RowF w1 base g e n f := by
  obtain ⟨xs, ho, he⟩ := h
  exact ⟨xs, own_below ho hb, he⟩
theorem RowF.put {W : World} {base g n k : Nat} {e : TypeId} {f : Nat → Value} (h : RowF W base g e n f) (u : Value) : RowF (W.setCell ⟨g, k, none⟩ u) base g e n (fun j => if j = k then u else f j) := by
  obtain ⟨xs, ho, he⟩ := h
  have hl : xs.length = n := by simpa using ho.1
  refine ⟨xs.set k u, (ho.stored k u).1, fun j hj => ?_⟩
  rw [List.getElem?_set]
  by_cases hk : k = j
  · subst hk; simp [hl, hj]
  · have hk' : ¬ j = k := fun h => hk h.symm
    simp [hk, hk', he j hj]
theorem RowF.far {W : World} {base g n : Nat} {e : TypeId} {f : Nat → Value} (h : RowF W base g e n f) {p : Addr} (hp : g ≠ p.block) (u : Value) : RowF (W.setCell p u) base g e n f := by
  obtain ⟨xs, ho, he⟩ := h
  refine ⟨xs, ?_, he⟩
  refine ⟨ho.1, ?_⟩
  rcases ho.2 with ⟨h', _⟩ | ⟨g', cap, cur, h', hb, hg, hr⟩
  · cases h'
  · have hgg : g' = g := by injection h' with h1; injection h1 with h1; injection h1 with h1; exact h1.symm
    subst hgg
    exact .inr ⟨g', cap, cur, h', hb, (Below.heap_setCell W p u g' hp).trans hg, hr⟩
theorem RowF.congr {W : World} {base g n : Nat} {e : TypeId} {f f' : Nat → Value} (h : RowF W base g e n f) (hf : ∀ j, j < n → f j = f' j) : RowF W base g e n f' := by
  obtain ⟨xs, ho, he⟩ := h
  exact ⟨xs, ho, fun j hj => by rw [he j hj, hf j hj]⟩
theorem RowF.made {W : World} {base g n : Nat} {e : TypeId} {z : Value} (ho : W.ownsRow base e 1 (.slice (some ⟨g, 0, none⟩) n n) n (madeCells #[z] (n * 1)).toList) : RowF W base g e n (fun _ => z) := by
  refine ⟨_, ho, fun j hj => ?_⟩
  rw [toList_madeCells_one]
  simp [hj]
end Go.Proofs.Ytnjdffnbkjjmeaa
