/- Contracts of the methods of syntax.Pos, of NewPos, posAddCol and posMax, each for every argument. -/
import Derived.Test.YtimaobpcefgdkaaFmtRows
import Derived.Test.YtimaobpcefgdkaaFmtPlain
import Derived.WalkKit
import Derived.WalkLawsBesides
import Derived.Handy
import Derived.Lib.Hide
namespace Go.Proofs.YtimaobpcefgdkaaFmt
open Go.RowKit

abbrev P2 (o lc : Int) : Value := .agg #[.int .u32 o, .int .u32 lc]

theorem bcell {w W w1 : World} (h0 : Below w.heap.size w W) (hb : Below W.heap.size W w1) : (∀ b o, b < W.heap.size → w1.cell? ⟨b, o, none⟩ = W.cell? ⟨b, o, none⟩) ∧ (∀ b o, b < W.heap.size → w1.frozen? ⟨b, o, none⟩ = W.frozen? ⟨b, o, none⟩) ∧ W.heap.size ≤ w1.heap.size ∧ Below w.heap.size w w1 ∧ w.heap.size ≤ w1.heap.size :=
  ⟨fun b o h => hb.cell (p := ⟨b, o, none⟩) h, fun b o h => hb.frozen (p := ⟨b, o, none⟩) h, hb.size, h0.trans (hb.mono h0.size), Nat.le_trans h0.size hb.size⟩

theorem keepc {W w1 : World} (hb : Below W.heap.size W w1) {p : Addr} {v : Value} (h : W.cell? p = some v) : w1.cell? p = some v :=
  (hb.cell (World.block_lt_of_cell? _ _ h)).trans h
theorem bmore {w W w1 : World} (h0 : Below w.heap.size w W) (hb : Below W.heap.size W w1) : Below w.heap.size w w1 := h0.trans (hb.mono h0.size)

theorem col_any (o lc : Int) (w : World) (h0 : 0 ≤ lc) (h1 : lc < 4294967296) :
    Calls Tryf.prog 44 #[P2 o lc] w fun e w' => e = .returned (.int .u64 (lc % 16384)) ∧ Below w.heap.size w w' := by
  have ea := and_col lc h0 h1
  go_enter Tryf.func44, Tryf.ntmps44
  go_wp2
  go_ret
  exact ⟨rfl, by go_grown⟩
theorem line_any (o lc : Int) (w : World) (h0 : 0 ≤ lc) (h1 : lc < 4294967296) :
    Calls Tryf.prog 46 #[P2 o lc] w fun e w' => e = .returned (.int .u64 (lc / 16384)) ∧ Below w.heap.size w w' := by
  go_enter Tryf.func46, Tryf.ntmps46
  go_wp2
  go_ret
  exact ⟨rfl, by go_grown⟩
theorem newPos_any (o l c : Int) (w : World) (o0 : 0 ≤ o) (o1 : o < 18446744073709551616) (l0 : 0 ≤ l) (l1 : l < 18446744073709551616) (c0 : 0 ≤ c) (c1 : c < 18446744073709551616) :
    Calls Tryf.prog 7 #[.int .u64 o, .int .u64 l, .int .u64 c] w fun e w' => e = .returned (P2 (npO o) (npL l c)) ∧ Below w.heap.size w w' := by
  by_cases hl : 262143 < l
  · by_cases hc : 16383 < c
    · have e1 : npL l c = 0 := by simp [npL, npF, hl, hc]
      have eo := or_col 0 0 (by omega) (by omega) (by omega) (by omega) (by omega)
      simp only [Int.zero_add] at eo
      rw [e1]; clear e1
      go_enter Tryf.func7, Tryf.ntmps7
      go_wp2
      all_goals (go_returns; exact ⟨by congr; unfold npO; omega, by go_grown⟩)
    · have e1 : npL l c = c := by simp [npL, npF, hl, hc]
      have eo := or_col 0 c (by omega) (by omega) (by omega) (by omega) (by omega)
      simp only [Int.zero_add] at eo
      rw [e1]; clear e1
      go_enter Tryf.func7, Tryf.ntmps7
      go_wp2
      all_goals (go_returns; exact ⟨by congr; unfold npO; omega, by go_grown⟩)
  · by_cases hc : 16383 < c
    · have e1 : npL l c = l * 16384 := by simp [npL, npF, hl, hc]
      have eo := or_col (l * 16384) 0 (by omega) (by omega) (by omega) (by omega) (by omega)
      simp only [Int.add_zero] at eo
      rw [e1]; clear e1
      go_enter Tryf.func7, Tryf.ntmps7
      go_wp2
      all_goals (go_returns; exact ⟨by congr; unfold npO; omega, by go_grown⟩)
    · have e1 : npL l c = l * 16384 + c := by simp [npL, npF, hl, hc]
      have eo := or_col (l * 16384) c (by omega) (by omega) (by omega) (by omega) (by omega)
      rw [e1]; clear e1
      go_enter Tryf.func7, Tryf.ntmps7
      go_wp2
      all_goals (go_returns; exact ⟨by congr; unfold npO; omega, by go_grown⟩)
end Go.Proofs.YtimaobpcefgdkaaFmt
