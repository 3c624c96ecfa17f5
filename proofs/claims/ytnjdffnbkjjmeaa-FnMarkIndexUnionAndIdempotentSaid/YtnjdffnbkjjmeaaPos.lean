/- Contracts of the methods of syntax.Pos, of NewPos, posAddCol and posMax, each for every argument. -/
import Derived.Test.YtnjdffnbkjjmeaaRows
import Derived.Test.YtnjdffnbkjjmeaaPlain
import Derived.WalkKit
import Derived.WalkLawsBesides
import Derived.Handy
import Derived.Lib.Hide
namespace Go.Proofs.Ytnjdffnbkjjmeaa
open Go.RowKit

abbrev P2 (o lc : Int) : Value := .agg #[.int .u32 o, .int .u32 lc]

theorem bcell {w W w1 : World} (h0 : Below w.heap.size w W) (hb : Below W.heap.size W w1) : (∀ b o, b < W.heap.size → w1.cell? ⟨b, o, none⟩ = W.cell? ⟨b, o, none⟩) ∧ (∀ b o, b < W.heap.size → w1.frozen? ⟨b, o, none⟩ = W.frozen? ⟨b, o, none⟩) ∧ W.heap.size ≤ w1.heap.size ∧ Below w.heap.size w w1 ∧ w.heap.size ≤ w1.heap.size :=
  ⟨fun b o h => hb.cell (p := ⟨b, o, none⟩) h, fun b o h => hb.frozen (p := ⟨b, o, none⟩) h, hb.size, h0.trans (hb.mono h0.size), Nat.le_trans h0.size hb.size⟩

theorem keepc {W w1 : World} (hb : Below W.heap.size W w1) {p : Addr} {v : Value} (h : W.cell? p = some v) : w1.cell? p = some v :=
  (hb.cell (World.block_lt_of_cell? _ _ h)).trans h
theorem bmore {w W w1 : World} (h0 : Below w.heap.size w W) (hb : Below W.heap.size W w1) : Below w.heap.size w w1 := h0.trans (hb.mono h0.size)

end Go.Proofs.Ytnjdffnbkjjmeaa
