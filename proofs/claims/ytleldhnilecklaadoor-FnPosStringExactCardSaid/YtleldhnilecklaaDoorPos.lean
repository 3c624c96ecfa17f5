/- Contracts of the methods of syntax.Pos, of NewPos, posAddCol and posMax, each for every argument. -/
import Derived.Test.YtleldhnilecklaaDoorRows
import Derived.Test.YtleldhnilecklaaDoorPlain
import Derived.WalkKit
import Derived.WalkLawsBesides
import Derived.Handy
import Derived.Lib.Hide
namespace Go.Proofs.YtleldhnilecklaaDoor
open Go.RowKit

abbrev P2 (o lc : Int) : Value := .agg #[.int .u32 o, .int .u32 lc]

theorem bcell {w W w1 : World} (h0 : Below w.heap.size w W) (hb : Below W.heap.size W w1) : (∀ b o, b < W.heap.size → w1.cell? ⟨b, o, none⟩ = W.cell? ⟨b, o, none⟩) ∧ (∀ b o, b < W.heap.size → w1.frozen? ⟨b, o, none⟩ = W.frozen? ⟨b, o, none⟩) ∧ W.heap.size ≤ w1.heap.size ∧ Below w.heap.size w w1 ∧ w.heap.size ≤ w1.heap.size :=
  ⟨fun b o h => hb.cell (p := ⟨b, o, none⟩) h, fun b o h => hb.frozen (p := ⟨b, o, none⟩) h, hb.size, h0.trans (hb.mono h0.size), Nat.le_trans h0.size hb.size⟩

theorem keepc {W w1 : World} (hb : Below W.heap.size W w1) {p : Addr} {v : Value} (h : W.cell? p = some v) : w1.cell? p = some v :=
  (hb.cell (World.block_lt_of_cell? _ _ h)).trans h
theorem bmore {w W w1 : World} (h0 : Below w.heap.size w W) (hb : Below W.heap.size W w1) : Below w.heap.size w w1 := h0.trans (hb.mono h0.size)

theorem isValid_any (o lc : Int) (w : World) :
    Calls Tryd.prog 13 #[P2 o lc] w fun e w' => e = .returned (.bool (vld o lc)) ∧ Below w.heap.size w w' := by
  by_cases h1 : o ≤ 4294967284
  · by_cases h2 : lc = 0
    · have e1 : vld o lc = false := vld_no (.inr h2)
      rw [e1]; clear e1
      subst h2
      go_enter Tryd.func13, Tryd.ntmps13
      go_wp2
      go_ret
      exact ⟨rfl, by go_grown⟩
    · have e1 : vld o lc = true := vld_mk h1 h2
      have h2' : (lc != 0) = true := by simpa using h2
      have h2'' : (lc == 0) = false := by simpa using h2
      rw [e1]; clear e1 h2
      go_enter Tryd.func13, Tryd.ntmps13
      go_wp2
      go_ret
      exact ⟨rfl, by go_grown⟩
  · have e1 : vld o lc = false := vld_no (.inl (by omega))
    rw [e1]; clear e1
    have h1' : decide (o ≤ 4294967284) = false := by simpa using h1
    go_enter Tryd.func13, Tryd.ntmps13
    go_wp2
    go_ret
    exact ⟨rfl, by go_grown⟩
theorem col_any (o lc : Int) (w : World) (h0 : 0 ≤ lc) (h1 : lc < 4294967296) :
    Calls Tryd.prog 15 #[P2 o lc] w fun e w' => e = .returned (.int .u64 (lc % 16384)) ∧ Below w.heap.size w w' := by
  have ea := and_col lc h0 h1
  go_enter Tryd.func15, Tryd.ntmps15
  go_wp2
  go_ret
  exact ⟨rfl, by go_grown⟩
theorem line_any (o lc : Int) (w : World) (h0 : 0 ≤ lc) (h1 : lc < 4294967296) :
    Calls Tryd.prog 14 #[P2 o lc] w fun e w' => e = .returned (.int .u64 (lc / 16384)) ∧ Below w.heap.size w w' := by
  go_enter Tryd.func14, Tryd.ntmps14
  go_wp2
  go_ret
  exact ⟨rfl, by go_grown⟩
theorem offset_any (o lc : Int) (w : World) (h0 : 0 ≤ o) (h1 : o < 4294967296) :
    Calls Tryd.prog 22 #[P2 o lc] w fun e w' => e = .returned (.int .u64 (offv o)) ∧ Below w.heap.size w w' := by
  by_cases h : 4294967284 < o
  · have e1 : offv o = 0 := by simp [offv, h]
    rw [e1]; clear e1
    go_enter Tryd.func22, Tryd.ntmps22
    go_wp2
    go_ret
    exact ⟨rfl, by go_grown⟩
  · have e1 : offv o = o := by simp [offv, h]
    rw [e1]; clear e1
    go_enter Tryd.func22, Tryd.ntmps22
    go_wp2
    go_ret
    exact ⟨rfl, by go_grown⟩
theorem after_any (o lc o2 lc2 : Int) (w : World) :
    Calls Tryd.prog 23 #[P2 o lc, P2 o2 lc2] w fun e w' => e = .returned (.bool (aft o lc o2)) ∧ Below w.heap.size w w' := by
  by_cases h1 : o ≤ 4294967284
  · by_cases h2 : lc = 0
    · have e1 : aft o lc o2 = false := by simp [aft, vld_no (.inr h2)]
      rw [e1]; clear e1
      subst h2
      go_enter Tryd.func23, Tryd.ntmps23
      go_wp2
      go_ret
      exact ⟨rfl, by go_grown⟩
    · have e1 : aft o lc o2 = decide (o2 < o) := by simp [aft, vld_mk h1 h2]
      have h2' : (lc != 0) = true := by simpa using h2
      have h2'' : (lc == 0) = false := by simpa using h2
      rw [e1]; clear e1 h2
      go_enter Tryd.func23, Tryd.ntmps23
      go_wp2
      go_ret
      exact ⟨rfl, by go_grown⟩
  · have e1 : aft o lc o2 = false := by
      have e2 : vld o lc = false := vld_no (.inl (by omega))
      simp [aft, e2]
    rw [e1]; clear e1
    have h1' : decide (o ≤ 4294967284) = false := by simpa using h1
    go_enter Tryd.func23, Tryd.ntmps23
    go_wp2
    go_ret
    exact ⟨rfl, by go_grown⟩
theorem newPos_any (o l c : Int) (w : World) (o0 : 0 ≤ o) (o1 : o < 18446744073709551616) (l0 : 0 ≤ l) (l1 : l < 18446744073709551616) (c0 : 0 ≤ c) (c1 : c < 18446744073709551616) :
    Calls Tryd.prog 10 #[.int .u64 o, .int .u64 l, .int .u64 c] w fun e w' => e = .returned (P2 (npO o) (npL l c)) ∧ Below w.heap.size w w' := by
  by_cases hl : 262143 < l
  · by_cases hc : 16383 < c
    · have e1 : npL l c = 0 := by simp [npL, npF, hl, hc]
      have eo := or_col 0 0 (by omega) (by omega) (by omega) (by omega) (by omega)
      simp only [Int.zero_add] at eo
      rw [e1]; clear e1
      go_enter Tryd.func10, Tryd.ntmps10
      go_wp2
      all_goals (go_returns; exact ⟨by congr; unfold npO; omega, by go_grown⟩)
    · have e1 : npL l c = c := by simp [npL, npF, hl, hc]
      have eo := or_col 0 c (by omega) (by omega) (by omega) (by omega) (by omega)
      simp only [Int.zero_add] at eo
      rw [e1]; clear e1
      go_enter Tryd.func10, Tryd.ntmps10
      go_wp2
      all_goals (go_returns; exact ⟨by congr; unfold npO; omega, by go_grown⟩)
  · by_cases hc : 16383 < c
    · have e1 : npL l c = l * 16384 := by simp [npL, npF, hl, hc]
      have eo := or_col (l * 16384) 0 (by omega) (by omega) (by omega) (by omega) (by omega)
      simp only [Int.add_zero] at eo
      rw [e1]; clear e1
      go_enter Tryd.func10, Tryd.ntmps10
      go_wp2
      all_goals (go_returns; exact ⟨by congr; unfold npO; omega, by go_grown⟩)
    · have e1 : npL l c = l * 16384 + c := by simp [npL, npF, hl, hc]
      have eo := or_col (l * 16384) c (by omega) (by omega) (by omega) (by omega) (by omega)
      rw [e1]; clear e1
      go_enter Tryd.func10, Tryd.ntmps10
      go_wp2
      all_goals (go_returns; exact ⟨by congr; unfold npO; omega, by go_grown⟩)
end Go.Proofs.YtleldhnilecklaaDoor
