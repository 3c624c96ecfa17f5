/- Contracts of the methods of syntax.Pos, of NewPos, posAddCol and posMax, each for every argument. -/
import Derived.Test.YtaampofbcbophaaRows
import Derived.Test.YtaampofbcbophaaPlain
import Derived.WalkKit
import Derived.WalkLawsBesides
import Derived.Handy
import Derived.Lib.Hide
namespace Go.Proofs.Ytaampofbcbophaa
open Go.RowKit

abbrev P2 (o lc : Int) : Value := .agg #[.int .u32 o, .int .u32 lc]

theorem bcell {w W w1 : World} (h0 : Below w.heap.size w W) (hb : Below W.heap.size W w1) : (∀ b o, b < W.heap.size → w1.cell? ⟨b, o, none⟩ = W.cell? ⟨b, o, none⟩) ∧ (∀ b o, b < W.heap.size → w1.frozen? ⟨b, o, none⟩ = W.frozen? ⟨b, o, none⟩) ∧ W.heap.size ≤ w1.heap.size ∧ Below w.heap.size w w1 ∧ w.heap.size ≤ w1.heap.size :=
  ⟨fun b o h => hb.cell (p := ⟨b, o, none⟩) h, fun b o h => hb.frozen (p := ⟨b, o, none⟩) h, hb.size, h0.trans (hb.mono h0.size), Nat.le_trans h0.size hb.size⟩

theorem keepc {W w1 : World} (hb : Below W.heap.size W w1) {p : Addr} {v : Value} (h : W.cell? p = some v) : w1.cell? p = some v :=
  (hb.cell (World.block_lt_of_cell? _ _ h)).trans h
theorem bmore {w W w1 : World} (h0 : Below w.heap.size w W) (hb : Below W.heap.size W w1) : Below w.heap.size w w1 := h0.trans (hb.mono h0.size)

theorem isValid_any (o lc : Int) (w : World) :
    Calls Try.prog 82 #[P2 o lc] w fun e w' => e = .returned (.bool (vld o lc)) ∧ Below w.heap.size w w' := by
  by_cases h1 : o ≤ 4294967284
  · by_cases h2 : lc = 0
    · have e1 : vld o lc = false := vld_no (.inr h2)
      rw [e1]; clear e1
      subst h2
      go_enter Try.func82, Try.ntmps82
      go_wp2
      go_ret
      exact ⟨rfl, by go_grown⟩
    · have e1 : vld o lc = true := vld_mk h1 h2
      have h2' : (lc != 0) = true := by simpa using h2
      have h2'' : (lc == 0) = false := by simpa using h2
      rw [e1]; clear e1 h2
      go_enter Try.func82, Try.ntmps82
      go_wp2
      go_ret
      exact ⟨rfl, by go_grown⟩
  · have e1 : vld o lc = false := vld_no (.inl (by omega))
    rw [e1]; clear e1
    have h1' : decide (o ≤ 4294967284) = false := by simpa using h1
    go_enter Try.func82, Try.ntmps82
    go_wp2
    go_ret
    exact ⟨rfl, by go_grown⟩
theorem col_any (o lc : Int) (w : World) (h0 : 0 ≤ lc) (h1 : lc < 4294967296) :
    Calls Try.prog 73 #[P2 o lc] w fun e w' => e = .returned (.int .u64 (lc % 16384)) ∧ Below w.heap.size w w' := by
  have ea := and_col lc h0 h1
  go_enter Try.func73, Try.ntmps73
  go_wp2
  go_ret
  exact ⟨rfl, by go_grown⟩
theorem line_any (o lc : Int) (w : World) (h0 : 0 ≤ lc) (h1 : lc < 4294967296) :
    Calls Try.prog 74 #[P2 o lc] w fun e w' => e = .returned (.int .u64 (lc / 16384)) ∧ Below w.heap.size w w' := by
  go_enter Try.func74, Try.ntmps74
  go_wp2
  go_ret
  exact ⟨rfl, by go_grown⟩
theorem offset_any (o lc : Int) (w : World) (h0 : 0 ≤ o) (h1 : o < 4294967296) :
    Calls Try.prog 17 #[P2 o lc] w fun e w' => e = .returned (.int .u64 (offv o)) ∧ Below w.heap.size w w' := by
  by_cases h : 4294967284 < o
  · have e1 : offv o = 0 := by simp [offv, h]
    rw [e1]; clear e1
    go_enter Try.func17, Try.ntmps17
    go_wp2
    go_ret
    exact ⟨rfl, by go_grown⟩
  · have e1 : offv o = o := by simp [offv, h]
    rw [e1]; clear e1
    go_enter Try.func17, Try.ntmps17
    go_wp2
    go_ret
    exact ⟨rfl, by go_grown⟩
theorem after_any (o lc o2 lc2 : Int) (w : World) :
    Calls Try.prog 29 #[P2 o lc, P2 o2 lc2] w fun e w' => e = .returned (.bool (aft o lc o2)) ∧ Below w.heap.size w w' := by
  by_cases h1 : o ≤ 4294967284
  · by_cases h2 : lc = 0
    · have e1 : aft o lc o2 = false := by simp [aft, vld_no (.inr h2)]
      rw [e1]; clear e1
      subst h2
      go_enter Try.func29, Try.ntmps29
      go_wp2
      go_ret
      exact ⟨rfl, by go_grown⟩
    · have e1 : aft o lc o2 = decide (o2 < o) := by simp [aft, vld_mk h1 h2]
      have h2' : (lc != 0) = true := by simpa using h2
      have h2'' : (lc == 0) = false := by simpa using h2
      rw [e1]; clear e1 h2
      go_enter Try.func29, Try.ntmps29
      go_wp2
      go_ret
      exact ⟨rfl, by go_grown⟩
  · have e1 : aft o lc o2 = false := by
      have e2 : vld o lc = false := vld_no (.inl (by omega))
      simp [aft, e2]
    rw [e1]; clear e1
    have h1' : decide (o ≤ 4294967284) = false := by simpa using h1
    go_enter Try.func29, Try.ntmps29
    go_wp2
    go_ret
    exact ⟨rfl, by go_grown⟩
set_option maxHeartbeats 2000000 in
theorem addCol_any (o lc n : Int) (w : World) (o0 : 0 ≤ o) (o1 : o < 4294967296) (h0 : 0 ≤ lc) (h1 : lc < 4294967296) (n0 : -4611686018427387904 ≤ n) (n1 : n ≤ 4611686018427387904) :
    Calls Try.prog 79 #[P2 o lc, .int .i64 n] w fun e w' => e = .returned (P2 (addO o lc n) (addL o lc n)) ∧ Below w.heap.size w w' := by
  by_cases hv : vld o lc = true
  · obtain ⟨v1, v2⟩ := vld_true hv
    have v2' : (lc != 0) = true := by simpa using v2
    have v2'' : (lc == 0) = false := by simpa using v2
    have e1 : addO o lc n = min (max (o + n) 0) 4294967284 := by simp [addO, hv]
    have e2 : addL o lc n = lc - lc % 16384 + addC lc n := by simp [addL, hv]
    rw [e1, e2]
    clear hv e1 e2 v2
    have ea := and_col lc h0 h1
    have en := andNot_col lc h0 h1
    by_cases hc : 0 < lc % 16384
    · by_cases ha : lc % 16384 + n < 1
      · have eo := or_col (lc - lc % 16384) 0 (by omega) (by omega) (by omega) (by omega) (by omega)
        have e3 : addC lc n = 0 := by simp [addC, ha]
        rw [e3]; clear e3
        go_enter Try.func79, Try.ntmps79
        go_wp2
        all_goals (go_returns; exact ⟨by congr; omega, by go_grown⟩)
      · by_cases hb : 16383 < lc % 16384 + n
        · have eo := or_col (lc - lc % 16384) 0 (by omega) (by omega) (by omega) (by omega) (by omega)
          have e3 : addC lc n = 0 := by simp [addC, hb]
          rw [e3]; clear e3
          go_enter Try.func79, Try.ntmps79
          go_wp2
          all_goals (go_returns; exact ⟨by congr; omega, by go_grown⟩)
        · have eo := or_col (lc - lc % 16384) (lc % 16384 + n) (by omega) (by omega) (by omega) (by omega) (by omega)
          have e3 : addC lc n = lc % 16384 + n := by simp [addC, hc, ha, hb]
          rw [e3]; clear e3
          go_enter Try.func79, Try.ntmps79
          go_wp2
          all_goals (go_returns; exact ⟨by congr; omega, by go_grown⟩)
    · have eo := or_col (lc - lc % 16384) (lc % 16384) (by omega) (by omega) (by omega) (by omega) (by omega)
      have e3 : addC lc n = lc % 16384 := by rw [addC, if_neg hc]; omega
      rw [e3]; clear e3
      go_enter Try.func79, Try.ntmps79
      go_wp2
      all_goals (go_returns; exact ⟨by congr; omega, by go_grown⟩)
  · have hv : vld o lc = false := by simpa using hv
    have e1 : addO o lc n = o := by simp [addO, hv]
    have e2 : addL o lc n = lc := by simp [addL, hv]
    rw [e1, e2]
    by_cases v1 : o ≤ 4294967284
    · have v2 : lc = 0 := by rcases vld_false hv with h | h <;> omega
      subst v2
      clear hv e1 e2
      go_enter Try.func79, Try.ntmps79
      go_wp2
      all_goals (go_returns; exact ⟨rfl, by go_grown⟩)
    · clear hv e1 e2
      have v1' : decide (o ≤ 4294967284) = false := by simpa using v1
      go_enter Try.func79, Try.ntmps79
      go_wp2
      all_goals (go_returns; exact ⟨rfl, by go_grown⟩)
end Go.Proofs.Ytaampofbcbophaa
