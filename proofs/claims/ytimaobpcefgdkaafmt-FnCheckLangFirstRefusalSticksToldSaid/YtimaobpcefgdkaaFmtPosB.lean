/- Contracts over those of Pos: posMax. -/
import Derived.Test.YtimaobpcefgdkaaFmtPos
namespace Go.Proofs.YtimaobpcefgdkaaFmt
open Go.RowKit
/-- Two positions held in two blocks, and nothing old turned: kept over a call that only makes memory. -/
theorem keep22 {w Wp w1 : World} {bp be : Nat} {v0 v1 v2 v3 : Value}
    (hs : Wp.cell? ⟨bp, 0, none⟩ = some v0 ∧ Wp.cell? ⟨bp, 1, none⟩ = some v1 ∧ Wp.cell? ⟨be, 0, none⟩ = some v2 ∧ Wp.cell? ⟨be, 1, none⟩ = some v3 ∧ Below w.heap.size w Wp) (hb : Below Wp.heap.size Wp w1) :
    w1.cell? ⟨bp, 0, none⟩ = some v0 ∧ w1.cell? ⟨bp, 1, none⟩ = some v1 ∧ w1.cell? ⟨be, 0, none⟩ = some v2 ∧ w1.cell? ⟨be, 1, none⟩ = some v3 ∧ Below w.heap.size w w1 :=
  ⟨keepc hb hs.1, keepc hb hs.2.1, keepc hb hs.2.2.1, keepc hb hs.2.2.2.1, bmore hs.2.2.2.2 hb⟩
theorem keep33 {w Wp w1 : World} {bp be br : Nat} {v0 v1 v2 v3 v4 v5 : Value}
    (hs : Wp.cell? ⟨bp, 0, none⟩ = some v0 ∧ Wp.cell? ⟨bp, 1, none⟩ = some v1 ∧ Wp.cell? ⟨be, 0, none⟩ = some v2 ∧ Wp.cell? ⟨be, 1, none⟩ = some v3 ∧ Wp.cell? ⟨br, 0, none⟩ = some v4 ∧ Wp.cell? ⟨br, 1, none⟩ = some v5 ∧ Below w.heap.size w Wp) (hb : Below Wp.heap.size Wp w1) :
    w1.cell? ⟨bp, 0, none⟩ = some v0 ∧ w1.cell? ⟨bp, 1, none⟩ = some v1 ∧ w1.cell? ⟨be, 0, none⟩ = some v2 ∧ w1.cell? ⟨be, 1, none⟩ = some v3 ∧ w1.cell? ⟨br, 0, none⟩ = some v4 ∧ w1.cell? ⟨br, 1, none⟩ = some v5 ∧ Below w.heap.size w w1 :=
  ⟨keepc hb hs.1, keepc hb hs.2.1, keepc hb hs.2.2.1, keepc hb hs.2.2.2.1, keepc hb hs.2.2.2.2.1, keepc hb hs.2.2.2.2.2.1, bmore hs.2.2.2.2.2.2 hb⟩
end Go.Proofs.YtimaobpcefgdkaaFmt
