/- Contracts for FnAssignSpanIsShiftInvariant. -/
import Derived.Test.YtaampofbcbophaaBld
import Derived.Test.YtaampofbcbophaaLAsnEndZ
import Derived.Deep.RegionHeld3
namespace Go.Proofs.Ytaampofbcbophaa
open Go.RowKit
theorem offset_in (o lc : Int) (w : World) (h0 : 0 ≤ o) (h1 : o ≤ 4294967284) : Calls Try.prog 17 #[P2 o lc] w fun e w' => e = .returned (.int .u64 o) ∧ Below w.heap.size w w' := by
  have c := offset_any o lc w h0 (by omega)
  rwa [offv_of h1 rfl] at c
theorem line_in (o l c : Int) (w : World) (h0 : 0 ≤ l) (h1 : l ≤ 262143) (h2 : 0 ≤ c) (h3 : c ≤ 16383) : Calls Try.prog 74 #[P2 o (l * 16384 + c)] w fun e w' => e = .returned (.int .u64 l) ∧ Below w.heap.size w w' := by
  have k := line_any o (l * 16384 + c) w (by omega) (by omega)
  rwa [show (l * 16384 + c) / 16384 = l from by omega] at k
theorem col_in (o l c : Int) (w : World) (h0 : 0 ≤ l) (h1 : l ≤ 262143) (h2 : 0 ≤ c) (h3 : c ≤ 16383) : Calls Try.prog 73 #[P2 o (l * 16384 + c)] w fun e w' => e = .returned (.int .u64 c) ∧ Below w.heap.size w w' := by
  have k := col_any o (l * 16384 + c) w (by omega) (by omega)
  rwa [show (l * 16384 + c) % 16384 = c from by omega] at k
theorem keep8 {w Wp w1 : World} {p q r s : Nat} {v0 v1 v2 v3 v4 v5 v6 v7 : Value}
    (hs : Wp.cell? ⟨p, 0, none⟩ = some v0 ∧ Wp.cell? ⟨p, 1, none⟩ = some v1 ∧ Wp.cell? ⟨q, 0, none⟩ = some v2 ∧ Wp.cell? ⟨q, 1, none⟩ = some v3 ∧ Wp.cell? ⟨r, 0, none⟩ = some v4 ∧ Wp.cell? ⟨r, 1, none⟩ = some v5 ∧ Wp.cell? ⟨s, 0, none⟩ = some v6 ∧ Wp.cell? ⟨s, 1, none⟩ = some v7 ∧ Below w.heap.size w Wp) (hb : Below Wp.heap.size Wp w1) :
    w1.cell? ⟨p, 0, none⟩ = some v0 ∧ w1.cell? ⟨p, 1, none⟩ = some v1 ∧ w1.cell? ⟨q, 0, none⟩ = some v2 ∧ w1.cell? ⟨q, 1, none⟩ = some v3 ∧ w1.cell? ⟨r, 0, none⟩ = some v4 ∧ w1.cell? ⟨r, 1, none⟩ = some v5 ∧ w1.cell? ⟨s, 0, none⟩ = some v6 ∧ w1.cell? ⟨s, 1, none⟩ = some v7 ∧ Below w.heap.size w w1 :=
  ⟨keepc hb hs.1, keepc hb hs.2.1, keepc hb hs.2.2.1, keepc hb hs.2.2.2.1, keepc hb hs.2.2.2.2.1, keepc hb hs.2.2.2.2.2.1, keepc hb hs.2.2.2.2.2.2.1, keepc hb hs.2.2.2.2.2.2.2.1, bmore hs.2.2.2.2.2.2.2.2 hb⟩
end Go.Proofs.Ytaampofbcbophaa
