/- File.End over bare statements: zzPos, stmtsEnd, File.End and the model's small functions. -/
import Derived.Test.YtimaobpcefgdkaaZArg
import Derived.Test.YtimaobpcefgdkaaStmt
import Derived.Test.YtimaobpcefgdkaaStep
import Derived.Deep.RegionHeld3
import Derived.Deep.Cut
import Derived.StillTailTactics
namespace Go.Proofs.Ytimaobpcefgdkaa
open Go.RowKit
abbrev A3 (o l c : Int) : Value := .agg #[.int .u32 o, .int .u32 l, .int .u32 c]
theorem zzBytesFE_any (a : Option Addr) (l c : Nat) (s : ByteArray) (w : World) (h1 : l ≤ 9223372036854775807) (h2 : s.size ≤ 9223372036854775807) :
    Calls Try.prog 37 #[.slice a l c, .string s] w fun e w' => ∃ b : Bool, e = .returned (.bool b) ∧ w = w' := by
  go_enter Try.func37, Try.ntmps37
  go_wp2
  all_goals (go_ret; exact ⟨_, rfl, rfl⟩)
theorem zzPos128_any (o l c : Int) (w : World) (o0 : 0 ≤ o) (o1 : o < 4294967296) (l0 : 0 ≤ l) (l1 : l < 4294967296) (c0 : 0 ≤ c) (c1 : c < 4294967296) :
    Calls Try.prog 38 #[A3 o l c] w fun e w' => e = .returned (P2 (npO o) (npL l c)) ∧ Below w.heap.size w w' := by
  go_enter Try.func38, Try.ntmps38
  go_wp2_with (go_at_call 84; refine (newPos_any _ _ _ _ (by omega) (by omega) (by omega) (by omega) (by omega) (by omega)).mono ?_; rintro e w1 ⟨rfl, hb⟩; obtain ⟨hc, hf, hz, hB, hs⟩ := bcell (w := w) (by go_grown) hb; clear hb)
  refine bodyPost_ret (v := P2 (npO o) (npL l c)) (by simp [results, Try.results38, go_sem, hc]) rfl ⟨rfl, ?_⟩
  go_grown
theorem zzRawOff128_any (o l c : Int) (w : World) (o0 : 0 ≤ o) (o1 : o < 4294967296) :
    Calls Try.prog 41 #[A3 o l c] w fun e w' => e = .returned (.int .u64 (npO o)) ∧ Below w.heap.size w w' := by
  by_cases h : 4294967284 < o
  · have e1 : npO o = 4294967284 := by unfold npO; omega
    rw [e1]; clear e1
    go_enter Try.func41, Try.ntmps41
    go_wp2
    go_ret
    exact ⟨rfl, by go_grown⟩
  · have e1 : npO o = o := by unfold npO; omega
    rw [e1]; clear e1
    go_enter Try.func41, Try.ntmps41
    go_wp2
    go_ret
    exact ⟨rfl, by go_grown⟩
theorem zzRawValid128_any (o l c : Int) (w : World) (l0 : 0 ≤ l) (c0 : 0 ≤ c) :
    Calls Try.prog 43 #[A3 o l c] w fun e w' => e = .returned (.bool (vld (npO o) (npL l c))) ∧ Below w.heap.size w w' := by
  have ho : npO o ≤ 4294967284 := by unfold npO; omega
  by_cases h1 : 1 ≤ l ∧ l ≤ 262143
  · obtain ⟨h1, h2⟩ := h1
    have e : vld (npO o) (npL l c) = true := vld_mk ho (by have := npF_bd c 16383 c0 (by omega); unfold npL npF at *; split <;> split at this <;> omega)
    rw [e]; clear e ho
    have d1 : decide (1 ≤ l) = true := by simpa using h1
    have d2 : decide (l ≤ 262143) = true := by simpa using h2
    go_enter Try.func43, Try.ntmps43
    go_wp2
    go_ret
    exact ⟨rfl, by go_grown⟩
  · have hl : npF l 262143 = 0 := by unfold npF; split <;> omega
    by_cases h3 : 1 ≤ c ∧ c ≤ 16383
    · obtain ⟨h3, h4⟩ := h3
      have e : vld (npO o) (npL l c) = true := vld_mk ho (by unfold npL; rw [hl]; unfold npF; split <;> omega)
      rw [e]; clear e ho hl
      have d3 : decide (1 ≤ c) = true := by simpa using h3
      have d4 : decide (c ≤ 16383) = true := by simpa using h4
      by_cases h5 : 1 ≤ l
      · have d1 : decide (1 ≤ l) = true := by simpa using h5
        have d2 : decide (l ≤ 262143) = false := by simp; omega
        clear h1
        go_enter Try.func43, Try.ntmps43
        go_wp2
        go_ret
        exact ⟨rfl, by go_grown⟩
      · have d1 : decide (1 ≤ l) = false := by simpa using h5
        clear h1
        go_enter Try.func43, Try.ntmps43
        go_wp2
        go_ret
        exact ⟨rfl, by go_grown⟩
    · have e : vld (npO o) (npL l c) = false := vld_no (.inr (by unfold npL; rw [hl]; unfold npF; split <;> omega))
      rw [e]; clear e ho hl
      by_cases h5 : 1 ≤ l
      · have d1 : decide (1 ≤ l) = true := by simpa using h5
        have d2 : decide (l ≤ 262143) = false := by simp; omega
        clear h1
        by_cases h6 : 1 ≤ c
        · have d3 : decide (1 ≤ c) = true := by simpa using h6
          have d4 : decide (c ≤ 16383) = false := by simp; omega
          clear h3
          go_enter Try.func43, Try.ntmps43
          go_wp2
          go_ret
          exact ⟨rfl, by go_grown⟩
        · have d3 : decide (1 ≤ c) = false := by simpa using h6
          clear h3
          go_enter Try.func43, Try.ntmps43
          go_wp2
          go_ret
          exact ⟨rfl, by go_grown⟩
      · have d1 : decide (1 ≤ l) = false := by simpa using h5
        clear h1
        by_cases h6 : 1 ≤ c
        · have d3 : decide (1 ≤ c) = true := by simpa using h6
          have d4 : decide (c ≤ 16383) = false := by simp; omega
          clear h3
          go_enter Try.func43, Try.ntmps43
          go_wp2
          go_ret
          exact ⟨rfl, by go_grown⟩
        · have d3 : decide (1 ≤ c) = false := by simpa using h6
          clear h3
          go_enter Try.func43, Try.ntmps43
          go_wp2
          go_ret
          exact ⟨rfl, by go_grown⟩
theorem stmtsEnd_none (a : Option Addr) (c : Nat) (w : World) :
    Calls Try.prog 77 #[.slice a 0 c, .slice none 0 0] w fun e w' => e = .returned (P2 0 0) ∧ Below w.heap.size w w' := by
  go_enter Try.func77, Try.ntmps77
  go_wp2
  go_returns
  exact ⟨rfl, by go_grown⟩
theorem stmtsEnd_last (g m cap b : Nat) (o lc : Int) (w : World) (hm : m ≤ 4611686018427387904) (hp : w.cell? ⟨g, m, none⟩ = some (.pointer (some ⟨b, 0, none⟩))) (hc0 : w.cell? ⟨b, 0, none⟩ = some (.slice none 0 0))
    (hend : ∀ W, Below w.heap.size w W → Calls Try.prog 27 #[.pointer (some ⟨b, 0, none⟩)] W fun e w' => e = .returned (P2 o lc) ∧ Below W.heap.size W w') :
    Calls Try.prog 77 #[.slice (some ⟨g, 0, none⟩) (m + 1) cap, .slice none 0 0] w fun e w' => e = .returned (P2 o lc) ∧ Below w.heap.size w w' := by
  have lb := World.block_lt_of_cell? _ _ hc0
  have lp := World.block_lt_of_cell? _ _ hp
  have i0 : (0 : Int) < (m : Int) + 1 := by omega
  have i1 : (m : Int) < (m : Int) + 1 := by omega
  have i2 : (0 : Int) ≤ (m : Int) := by omega
  have HE := Lib.hid hend
  clear hend
  go_enter Try.func77, Try.ntmps77
  go_wp2_with fail
  refine (HE.out _ (by go_grown)).mono ?_
  rintro e w1 ⟨rfl, hb⟩
  have q0 : w1.cell? ⟨b, 0, none⟩ = some (.slice none 0 0) := keepc hb (keepc (W := w) (by go_grown) hc0)
  have lb1 : b < w1.heap.size := World.block_lt_of_cell? _ _ q0
  have kR := (Bk.fresh _ _ _).keep hb
  have hB := bmore (w := w) (by go_grown) hb
  have lk := kR.lt
  clear hb hp hc0
  have cR := kR.cells
  have fR := kR.frz
  go_wp2
  refine bodyPost_ret (v := P2 o lc) (by simp [results, Try.results77, go_sem, cR, lk]) rfl ⟨rfl, ?_⟩
  go_grown
set_option maxRecDepth 100000 in
theorem File_End_any (b : Nat) (a : Option Addr) (n c : Nat) (o lc : Int) (w : World) (h1 : w.cell? ⟨b, 1, none⟩ = some (.slice a n c)) (h2 : w.cell? ⟨b, 2, none⟩ = some (.slice none 0 0))
    (hend : ∀ W, Below w.heap.size w W → Calls Try.prog 77 #[.slice a n c, .slice none 0 0] W fun e w' => e = .returned (P2 o lc) ∧ Below W.heap.size W w') :
    Calls Try.prog 39 #[.pointer (some ⟨b, 0, none⟩)] w fun e w' => e = .returned (P2 o lc) ∧ Below w.heap.size w w' := by
  have lb := World.block_lt_of_cell? _ _ h1
  have HE := Lib.hid hend
  clear hend
  go_enter Try.func39, Try.ntmps39
  go_wp2
  refine wp_gen (S := fun W => W.cell? ⟨b, 1, none⟩ = some (.slice a n c) ∧ W.cell? ⟨b, 2, none⟩ = some (.slice none 0 0) ∧ Bk W w.heap.size 30 #[.int .u32 0, .int .u32 0] ∧ Below w.heap.size w W) ⟨by simp [go_sem, h1, lb], by simp [go_sem, h2, lb], Bk.fresh _ _ _, by go_grown⟩ ?_
  clear h1 h2
  rintro W ⟨h1, h2, kR, hB⟩
  go_still_tail 8, (by kernel_rfl)
  change wpList _ _ _ _ _ W.drew
  go_wp2_with fail
  refine (HE.out W.drew hB.drew).mono ?_
  rintro e w1 ⟨rfl, hb⟩
  have kR1 := kR.drew.keep hb
  have B1 := bmore (w := w) hB.drew hb
  clear hb kR hB h1 h2
  have cR := kR1.cells
  have fR := kR1.frz
  go_wp2
  refine bodyPost_ret (v := P2 o lc) (by simp [results, Try.results39, go_sem, cR]) rfl ⟨rfl, ?_⟩
  go_grown
end Go.Proofs.Ytimaobpcefgdkaa
