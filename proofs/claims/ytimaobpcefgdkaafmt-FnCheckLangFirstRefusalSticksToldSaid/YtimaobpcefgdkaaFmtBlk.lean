/- A block that is known whole: what it reads, and how it is kept over new blocks, stores elsewhere and calls that only make memory. -/
import Derived.Test.YtimaobpcefgdkaaFmtPosB
import Derived.Laws.OwnMore
import Derived.Laws.Rows
namespace Go.Proofs.YtimaobpcefgdkaaFmt
open Go.RowKit

/-- Block g of w is just the cells cs of element type t, none of them frozen. -/
def Bk (w : World) (g : Nat) (t : TypeId) (cs : Array Value) : Prop := w.heap[g]? = some (.cells cs t (0, 0))

section
variable {w w' : World} {g : Nat} {t : TypeId} {cs : Array Value}
theorem Bk.lt (h : Bk w g t cs) : g < w.heap.size := by
  unfold Bk at h
  exact (Array.getElem?_eq_some_iff.1 h).1
theorem Bk.cells (h : Bk w g t cs) : ∀ i, w.cell? ⟨g, i, none⟩ = cs[i]? := fun i => cell_of_row w g i cs t (0, 0) h
theorem Bk.frz (h : Bk w g t cs) : ∀ i, w.frozen? ⟨g, i, none⟩ = false := fun i => by
  unfold Bk at h
  simp [World.frozen?, h]
theorem Bk.fresh (w : World) (t : TypeId) (cs : Array Value) : Bk (w.alloc (.cells cs t)) w.heap.size t cs := heap_alloc_new w _
theorem Bk.alloc (h : Bk w g t cs) (o : Obj) : Bk (w.alloc o) g t cs := (Below.heap_alloc w o g h.lt).trans h
theorem Bk.put (h : Bk w g t cs) (i : Nat) (u : Value) : Bk (w.setCell ⟨g, i, none⟩ u) g t (cs.setIfInBounds i u) := by
  unfold Bk at h ⊢
  simp [World.setCell, Array.getElem?_modify, h]
theorem Bk.far (h : Bk w g t cs) {p : Addr} (hp : g ≠ p.block) (u : Value) : Bk (w.setCell p u) g t cs := (Below.heap_setCell w p u g hp).trans h
theorem Bk.keep (h : Bk w g t cs) (hb : Below w.heap.size w w') : Bk w' g t cs := (hb.block g h.lt).trans h
theorem Bk.drew (h : Bk w g t cs) : Bk w.drew g t cs := h
theorem Bk.of_below {B : Nat} (h : Bk w g t cs) (hb : Below B w w') (hg : g < B) : Bk w' g t cs := (hb.block g hg).trans h
theorem Bk.newAt (h : w.heap.size = g) : Bk (w.alloc (.cells cs t)) g t cs := by subst h; exact Bk.fresh w t cs
end
theorem cell_far {w : World} {p q : Addr} {u v : Value} (h : w.cell? q = some v) (hne : q.block ≠ p.block) : (w.setCell p u).cell? q = some v :=
  (World.cell?_setCell_other w p q u (fun e => hne (by rw [e]))).trans h
/-- The world at a call, or at a code, forgotten but for what is said of it. -/
theorem calls_gen {P : Program} {f : FuncId} {args : Array Value} {W : World} {R : Ending → World → Prop} {S : World → Prop} (h : S W) (k : ∀ W', S W' → Calls P f args W' R) : Calls P f args W R := k W h
theorem wp_gen {P : Program} {c : Code} {Q : Exit → Act → World → Prop} {a : Act} {W : World} {S : World → Prop} (h : S W) (k : ∀ W', S W' → Code.wp P c Q a W') : Code.wp P c Q a W := k W h
end Go.Proofs.YtimaobpcefgdkaaFmt
