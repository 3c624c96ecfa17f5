/- Rows that the call itself makes: a slice of pointers filled in a loop, each element with what it leads to. -/
import Derived.Test.YtimaobpcefgdkaaFmtBlk
import Derived.OwnWalk
import Derived.Deep.Draws
namespace Go.Proofs.YtimaobpcefgdkaaFmt
open Go.RowKit

theorem grown_of_below {W w1 : World} (hb : Below W.heap.size W w1) (row : Option Nat) : W.grownBy w1 row := ⟨hb.os, hb.tape, hb.output, hb.size, fun i hi _ => hb.block i hi⟩
theorem Bk.grown {w w' : World} {g : Nat} {t : TypeId} {cs : Array Value} {row : Option Nat} (h : Bk w g t cs) (hb : w.grownBy w' row) (hg : some g ≠ row) : Bk w' g t cs := (hb.block g h.lt hg).trans h
theorem Bk.ne_row {w : World} {g g' base n cap size : Nat} {t e : TypeId} {cs : Array Value} {xs : List Value} (h : Bk w g t cs) (ho : w.ownsRow base e size (.slice (some ⟨g', 0, none⟩) n cap) n xs) (hne : t ≠ e) : some g ≠ some g' := by
  rcases ho.2 with ⟨h', _⟩ | ⟨g2, cap2, cur, h', _, hg, _⟩
  · cases h'
  · injection h' with h1 h2
    injection h1 with h1
    injection h1 with h1
    subst h1
    intro hh
    injection hh with hh
    subst hh
    unfold Bk at h
    rw [h] at hg
    injection hg with hg
    injection hg with _ ht
    exact hne ht
theorem own_below {W w1 : World} {base n size : Nat} {e : TypeId} {v : Value} {xs : List Value} (ho : W.ownsRow base e size v n xs) (hb : Below W.heap.size W w1) : w1.ownsRow base e size v n xs :=
  ho.kept (grown_of_below hb none) (by cases v.ownBlock <;> simp)

/-- The slice at g holds k of n elements of type e; each element v at place j meets El. -/
def RowOf (W : World) (base g : Nat) (e : TypeId) (k n : Nat) (El : Nat → Value → World → Prop) : Prop :=
  ∃ xs : List Value, W.ownsRow base e 1 (.slice (some ⟨g, 0, none⟩) k n) k xs ∧ ∀ j v, xs[j]? = some v → El j v W

theorem RowOf.lt {W : World} {base g k n : Nat} {e : TypeId} {El : Nat → Value → World → Prop} (h : RowOf W base g e k n El) : base ≤ g ∧ g < W.heap.size := by
  obtain ⟨xs, ho, _⟩ := h
  exact ho.lt g rfl
theorem RowOf.keep {W w1 : World} {base g k n : Nat} {e : TypeId} {El : Nat → Value → World → Prop} (h : RowOf W base g e k n El) (hb : Below W.heap.size W w1) (hE : ∀ j v, El j v W → El j v w1) : RowOf w1 base g e k n El := by
  obtain ⟨xs, ho, he⟩ := h
  exact ⟨xs, own_below ho hb, fun j v hj => hE j v (he j v hj)⟩
/-- The element at place j: the cell reads as it, and it meets El. -/
theorem RowOf.at_ {W : World} {base g k n j : Nat} {e : TypeId} {El : Nat → Value → World → Prop} (h : RowOf W base g e k n El) (hj : j < k) : ∃ v, W.cell? ⟨g, j, none⟩ = some v ∧ El j v W := by
  obtain ⟨xs, ho, he⟩ := h
  have hl : xs.length = k := by simpa using ho.1
  have hx : xs[j]? = some xs[j] := List.getElem?_eq_getElem (by omega)
  exact ⟨xs[j], by rw [ho.cellAt j (by omega), hx], he j _ hx⟩
theorem RowOf.push {W w1 : World} {base g k n : Nat} {e : TypeId} {El : Nat → Value → World → Prop} {xs : List Value} {v : Value} (he : ∀ j u, xs[j]? = some u → El j u W) (hl : xs.length = k) (hv : El k v W)
    (ho : w1.ownsRow base e 1 (.slice (some ⟨g, 0, none⟩) (k + 1) n) (k + 1) (xs ++ [v])) (hE : ∀ j u, El j u W → El j u w1) : RowOf w1 base g e (k + 1) n El := by
  refine ⟨xs ++ [v], ho, fun j u hj => hE j u ?_⟩
  rcases Nat.lt_or_ge j xs.length with h1 | h1
  · rw [List.getElem?_append_left h1] at hj
    exact he j u hj
  · rw [List.getElem?_append_right h1] at hj
    have h2 : j - xs.length = 0 := by
      rcases Nat.eq_zero_or_pos (j - xs.length) with h | h
      · exact h
      · rw [List.getElem?_eq_none (by simp; omega)] at hj; cases hj
    rw [h2] at hj
    simp at hj
    subst hj
    have h3 : j = k := by omega
    subst h3
    exact hv
theorem news_one {W : World} {g : Nat} {t : TypeId} {v : Value} (h : Bk W g t #[v]) : ∀ j u, [v][j]? = some u → W.cell? ((⟨g, 0, none⟩ : Addr).add j) = some u := by
  intro j u hu
  rcases j with _ | j
  · have := h.cells 0
    simp at hu
    subst hu
    simpa [Addr.add] using this
  · simp at hu
theorem wpList_gen {P : Program} {ops : Array Oper} {Q : Exit → Act → World → Prop} {os : List Oper} {a : Act} {W : World} {S : World → Prop} (h : S W) (k : ∀ W', S W' → wpList P ops Q os a W') : wpList P ops Q os a W := k W h
theorem bdrewN {B : Nat} {a w : World} (h : Below B a w) (n : Nat) : Below B a (w.drewN n) := ⟨h.os, h.tape, h.output, h.size, h.block⟩
theorem below_grown {w W w1 : World} {g : Nat} (h : Below w.heap.size w W) (hg : W.grownBy w1 (some g)) (hle : w.heap.size ≤ g) : Below w.heap.size w w1 :=
  h.trans ⟨hg.os, hg.tape, hg.output, hg.size, fun i hi => hg.block i (by have := h.size; omega) (by intro hh; injection hh with hh; omega)⟩
end Go.Proofs.YtimaobpcefgdkaaFmt
