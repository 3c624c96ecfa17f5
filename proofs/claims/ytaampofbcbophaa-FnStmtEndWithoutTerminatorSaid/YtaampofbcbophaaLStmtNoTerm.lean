/- The walk of FnStmtEndWithoutTerminator. -/
import Derived.Test.YtaampofbcbophaaFunc
import Derived.Test.YtaampofbcbophaaStRNilFalse
import Derived.Test.YtaampofbcbophaaStRNilTrue
import Derived.Test.YtaampofbcbophaaStRBlockFalse
import Derived.Test.YtaampofbcbophaaStRBlockTrue
import Derived.OpenShut
namespace Go.Proofs.Ytaampofbcbophaa
open Go.RowKit
theorem n010_11_zzAdd1_any (o lc : Int) (w : World) (o0 : 0 ≤ o) (o1 : o < 4294967296) (l0 : 0 ≤ lc) (l1 : lc < 4294967296) :
    Calls Try.prog 68 #[.int .u32 o, .int .u32 lc] w fun e w' => e = .returned (.tuple #[.int .u32 (addO o lc 1), .int .u32 (addL o lc 1)]) ∧ w = w' := by
  cases hv : vld o lc with
  | false =>
    have e1 : addO o lc 1 = o := by simp [addO, hv]
    have e2 : addL o lc 1 = lc := by simp [addL, hv]
    rw [e1, e2]
    clear e1 e2
    go_enter Try.func68, Try.ntmps68
    go_wp2_with (go_at_call 69; refine (n010_11_zzValid_any _ _ _).mono ?_; rintro e w' ⟨rfl, rfl⟩)
    go_ret2
    exact ⟨rfl, rfl⟩
  | true =>
    have hm := vld_true hv
    have ea := and_col lc l0 l1
    have e1 : addO o lc 1 = min (max (o + 1) 0) 4294967284 := by simp [addO, hv]
    have e2 : addL o lc 1 = lc - lc % 16384 + addC lc 1 := by simp [addL, hv]
    rw [e1, e2]
    clear e1 e2
    by_cases hc : lc % 16384 = 0
    · have e3 : addC lc 1 = 0 := by unfold addC; rw [if_neg (by omega)]
      have hc' : (lc % 16384 != 0) = false := by simpa using hc
      have eo := or_col (lc / 16384 * 16384) (lc % 16384) (by omega) (by omega) (by omega) (by omega) (by omega)
      rw [e3]
      clear e3
      have HC := Lib.hid hc
      clear hc
      go_enter Try.func68, Try.ntmps68
      go_wp2_with (go_at_call 69; refine (n010_11_zzValid_any _ _ _).mono ?_; rintro e w' ⟨rfl, rfl⟩)
      all_goals (go_ret2; have hc := HC.out; exact ⟨tup2 (by omega) (by omega), rfl⟩)
    · have hc' : (lc % 16384 != 0) = true := by simpa using hc
      by_cases hd : lc % 16384 = 16383
      · have e3 : addC lc 1 = 0 := by unfold addC; rw [if_pos (by omega), if_pos (by omega)]
        have hd' : (lc % 16384 == 16383) = true := by simpa using hd
        have eo := or_col (lc / 16384 * 16384) 0 (by omega) (by omega) (by omega) (by omega) (by omega)
        rw [e3]
        clear e3 hc
        have HC := Lib.hid hd
        clear hd
        go_enter Try.func68, Try.ntmps68
        go_wp2_with (go_at_call 69; refine (n010_11_zzValid_any _ _ _).mono ?_; rintro e w' ⟨rfl, rfl⟩)
        all_goals (go_ret2; have hd := HC.out; exact ⟨tup2 (by omega) (by omega), rfl⟩)
      · have e3 : addC lc 1 = lc % 16384 + 1 := by unfold addC; rw [if_pos (by omega), if_neg (by omega)]
        have hd' : (lc % 16384 == 16383) = false := by simpa using hd
        have eo := or_col (lc / 16384 * 16384) (lc % 16384 + 1) (by omega) (by omega) (by omega) (by omega) (by omega)
        rw [e3]
        clear e3 hc hd
        go_enter Try.func68, Try.ntmps68
        go_wp2_with (go_at_call 69; refine (n010_11_zzValid_any _ _ _).mono ?_; rintro e w' ⟨rfl, rfl⟩)
        all_goals (go_ret2; exact ⟨tup2 (by omega) (by omega), rfl⟩)
theorem redirChain (rr wd pt lt : Nat) (o lc : Int) (W : World) (h1 : W.cell? ⟨rr, 4, none⟩ = some (.pointer (some ⟨wd, 0, none⟩))) (h2 : W.cell? ⟨rr, 5, none⟩ = some (.pointer none)) (h3 : W.cell? ⟨wd, 0, none⟩ = some (.slice (some ⟨pt, 0, none⟩) 1 1)) (h4 : W.cell? ⟨pt, 0, none⟩ = some (.iface 37 (.pointer (some ⟨lt, 0, none⟩)))) (h5 : W.cell? ⟨lt, 2, none⟩ = some (.int .u32 o)) (h6 : W.cell? ⟨lt, 3, none⟩ = some (.int .u32 lc)) :
    Calls Try.prog 92 #[.pointer (some ⟨rr, 0, none⟩)] W fun e w' => e = .returned (P2 o lc) ∧ Below W.heap.size W w' :=
  Redirect_End_word rr wd o lc W h1 h2 fun W1 k => Word_End_lit wd pt 0 1 lt o lc W1 (keepc k h3) (by omega) (keepc k h4) (keepc k h5) (keepc k h6)
set_option maxHeartbeats 4000000 in
set_option maxRecDepth 100000 in
theorem noTerm_false_n_z (a0 : Int) (a1 : Int) (a3 : Bool) (a4 : Bool) (a6 : Int) (a7 : Int) (a9 : Int) (a10 : Int) (b0 : 0 ≤ a0 ∧ a0 ≤ 4294967295) (b1 : 0 ≤ a1 ∧ a1 ≤ 4294967295) (b6 : 0 ≤ a6 ∧ a6 ≤ 4294967295) (b7 : 0 ≤ a7 ∧ a7 ≤ 4294967295) (_b9 : 0 ≤ a9 ∧ a9 ≤ 4294967295) (_b10 : 0 ≤ a10 ∧ a10 ≤ 4294967295) (w : World) :
    Calls Try.prog 11 #[.int .u32 a0, .int .u32 a1, .bool false, .bool a3, .bool a4, .bool false, .int .u32 a6, .int .u32 a7, .bool false, .int .u32 a9, .int .u32 a10] w fun e w' => e = .returned (.bool true) ∧ Below w.heap.size w w' := by
  have k1 := addO_bd a0 a1 1 (by omega) (by omega)
  have k2 := addL_bd a0 a1 1 (by omega) (by omega)
  have k3 := addO_bd a6 a7 1 (by omega) (by omega)
  have k4 := addL_bd a6 a7 1 (by omega) (by omega)
  go_enter Try.func11, Try.ntmps11
  go_wp2_with (first | (go_at_call 66; go_in) | (go_at_call 67; go_in) | (go_at_call 69; refine (n010_11_zzValid_any _ _ _).mono ?_; rintro e w' ⟨rfl, rfl⟩) | (go_at_call 68; refine (n010_11_zzAdd1_any _ _ _ (by omega) (by omega) (by omega) (by omega)).mono ?_; rintro e w' ⟨rfl, rfl⟩))
  refine calls_gen (S := fun W => Bk W (w.heap.size + 1) 72 (stCells (.slice none 0 0) .nilIface a0 a1 0 0 false false a3 a4 (.slice none 0 0)) ∧ Below w.heap.size w W) ⟨(by repeat (first | (refine Bk.newAt ?_; simp; done) | refine Bk.alloc ?_ _ | refine Bk.drew ?_)), (by go_grown)⟩ ?_
  rintro W ⟨kS, hB⟩
  refine (Stmt_End_bare _ _ a0 a1 0 0 false false a3 a4 _ kS (by decide) (by omega) (by omega) (by omega) (by omega)).mono ?_
  rintro e w1 ⟨rfl, hb⟩
  have B1 := bmore hB hb
  have s1 := B1.size
  clear hb hB kS
  rw [if_neg (by decide)]
  go_wp2_with (go_at_call 66; go_in)
  go_ret
  exact ⟨rfl, by go_grown⟩
set_option maxHeartbeats 4000000 in
set_option maxRecDepth 100000 in
theorem noTerm_false_n_r0 (a0 : Int) (a1 : Int) (a3 : Bool) (a4 : Bool) (a6 : Int) (a7 : Int) (a9 : Int) (a10 : Int) (b0 : 0 ≤ a0 ∧ a0 ≤ 4294967295) (b1 : 0 ≤ a1 ∧ a1 ≤ 4294967295) (b6 : 0 ≤ a6 ∧ a6 ≤ 4294967295) (b7 : 0 ≤ a7 ∧ a7 ≤ 4294967295) (_b9 : 0 ≤ a9 ∧ a9 ≤ 4294967295) (_b10 : 0 ≤ a10 ∧ a10 ≤ 4294967295) (w : World) (hV : vld a9 a10 = false) :
    Calls Try.prog 11 #[.int .u32 a0, .int .u32 a1, .bool false, .bool a3, .bool a4, .bool false, .int .u32 a6, .int .u32 a7, .bool true, .int .u32 a9, .int .u32 a10] w fun e w' => e = .returned (.bool true) ∧ Below w.heap.size w w' := by
  have k1 := addO_bd a0 a1 1 (by omega) (by omega)
  have k2 := addL_bd a0 a1 1 (by omega) (by omega)
  have k3 := addO_bd a6 a7 1 (by omega) (by omega)
  have k4 := addL_bd a6 a7 1 (by omega) (by omega)
  have ha : aft a9 a10 (a0) = false := by simp [aft, hV]
  have HA := Lib.hid ha
  clear ha
  go_enter Try.func11, Try.ntmps11
  go_wp2_with (first | (go_at_call 66; go_in) | (go_at_call 67; go_in) | (go_at_call 69; refine (n010_11_zzValid_any _ _ _).mono ?_; rintro e w' ⟨rfl, rfl⟩) | (go_at_call 68; refine (n010_11_zzAdd1_any _ _ _ (by omega) (by omega) (by omega) (by omega)).mono ?_; rintro e w' ⟨rfl, rfl⟩))
  refine calls_gen (S := fun W => Bk W (w.heap.size + 1) 72 (stCells (.slice none 0 0) .nilIface a0 a1 0 0 false false a3 a4 (.slice (some ⟨w.heap.size + 1 + 1 + 1 + 1 + 1 + 1 + 1 + 1 + 1 + 1 + 1 + 1 + 1 + 1, 0, none⟩) 2 2)) ∧ W.cell? ⟨w.heap.size + 1 + 1 + 1 + 1 + 1 + 1 + 1 + 1 + 1 + 1 + 1 + 1 + 1 + 1, 1, none⟩ = some (.pointer (some ⟨w.heap.size + 1 + 1 + 1 + 1 + 1 + 1 + 1 + 1 + 1 + 1 + 1 + 1 + 1, 0, none⟩)) ∧ W.cell? ⟨w.heap.size + 1 + 1 + 1 + 1 + 1 + 1 + 1 + 1 + 1 + 1 + 1 + 1 + 1, 4, none⟩ = some (.pointer (some ⟨w.heap.size + 1 + 1 + 1 + 1 + 1 + 1 + 1 + 1 + 1 + 1 + 1 + 1, 0, none⟩)) ∧ W.cell? ⟨w.heap.size + 1 + 1 + 1 + 1 + 1 + 1 + 1 + 1 + 1 + 1 + 1 + 1 + 1, 5, none⟩ = some (.pointer none) ∧ W.cell? ⟨w.heap.size + 1 + 1 + 1 + 1 + 1 + 1 + 1 + 1 + 1 + 1 + 1 + 1, 0, none⟩ = some (.slice (some ⟨w.heap.size + 1 + 1 + 1 + 1 + 1 + 1 + 1 + 1 + 1 + 1 + 1, 0, none⟩) 1 1) ∧ W.cell? ⟨w.heap.size + 1 + 1 + 1 + 1 + 1 + 1 + 1 + 1 + 1 + 1 + 1, 0, none⟩ = some (.iface 37 (.pointer (some ⟨w.heap.size + 1 + 1 + 1 + 1 + 1 + 1 + 1 + 1 + 1 + 1, 0, none⟩))) ∧ W.cell? ⟨w.heap.size + 1 + 1 + 1 + 1 + 1 + 1 + 1 + 1 + 1 + 1, 2, none⟩ = some (.int .u32 a9) ∧ W.cell? ⟨w.heap.size + 1 + 1 + 1 + 1 + 1 + 1 + 1 + 1 + 1 + 1, 3, none⟩ = some (.int .u32 a10) ∧ Below w.heap.size w W) ⟨(by repeat (first | (refine Bk.newAt ?_; simp; done) | refine Bk.alloc ?_ _ | refine Bk.drew ?_)), (by simp [go_sem]), (by simp [go_sem]), (by simp [go_sem]), (by simp [go_sem]), (by simp [go_sem]), (by simp [go_sem]), (by simp [go_sem]), (by go_grown)⟩ ?_
  rintro W ⟨kS, r0, r1, r2, r3, r4, r5, r6, hB⟩
  refine (Stmt_End_nil_false _ _ 1 2 _ _ a0 a1 0 0 a9 a10 false a3 a4 _ kS (by decide) (by omega) (by omega) (by omega) (by omega) (by omega) r0 (fun W1 k => redirChain _ _ _ _ a9 a10 W1 (keepc k r1) (keepc k r2) (keepc k r3) (keepc k r4) (keepc k r5) (keepc k r6))).mono ?_
  rintro e w1 ⟨rfl, hb⟩
  have B1 := bmore hB hb
  have s1 := B1.size
  clear hb hB kS r0 r1 r2 r3 r4 r5 r6
  rw [HA.out, if_neg (by decide)]
  go_wp2_with (go_at_call 66; go_in)
  go_ret
  exact ⟨rfl, by go_grown⟩
set_option maxHeartbeats 4000000 in
set_option maxRecDepth 100000 in
theorem noTerm_false_n_r1 (a0 : Int) (a1 : Int) (a3 : Bool) (a4 : Bool) (a6 : Int) (a7 : Int) (a9 : Int) (a10 : Int) (b0 : 0 ≤ a0 ∧ a0 ≤ 4294967295) (b1 : 0 ≤ a1 ∧ a1 ≤ 4294967295) (b6 : 0 ≤ a6 ∧ a6 ≤ 4294967295) (b7 : 0 ≤ a7 ∧ a7 ≤ 4294967295) (_b9 : 0 ≤ a9 ∧ a9 ≤ 4294967295) (_b10 : 0 ≤ a10 ∧ a10 ≤ 4294967295) (w : World) (hV : vld a9 a10 = true) (hL : a0 < a9) :
    Calls Try.prog 11 #[.int .u32 a0, .int .u32 a1, .bool false, .bool a3, .bool a4, .bool false, .int .u32 a6, .int .u32 a7, .bool true, .int .u32 a9, .int .u32 a10] w fun e w' => e = .returned (.bool true) ∧ Below w.heap.size w w' := by
  have k1 := addO_bd a0 a1 1 (by omega) (by omega)
  have k2 := addL_bd a0 a1 1 (by omega) (by omega)
  have k3 := addO_bd a6 a7 1 (by omega) (by omega)
  have k4 := addL_bd a6 a7 1 (by omega) (by omega)
  have ha : aft a9 a10 (a0) = true := by simp [aft, hV, hL]
  have HA := Lib.hid ha
  clear ha
  have hL' : decide (a0 < a9) = true := by simpa using hL
  go_enter Try.func11, Try.ntmps11
  go_wp2_with (first | (go_at_call 66; go_in) | (go_at_call 67; go_in) | (go_at_call 69; refine (n010_11_zzValid_any _ _ _).mono ?_; rintro e w' ⟨rfl, rfl⟩) | (go_at_call 68; refine (n010_11_zzAdd1_any _ _ _ (by omega) (by omega) (by omega) (by omega)).mono ?_; rintro e w' ⟨rfl, rfl⟩))
  refine calls_gen (S := fun W => Bk W (w.heap.size + 1) 72 (stCells (.slice none 0 0) .nilIface a0 a1 0 0 false false a3 a4 (.slice (some ⟨w.heap.size + 1 + 1 + 1 + 1 + 1 + 1 + 1 + 1 + 1 + 1 + 1 + 1 + 1 + 1, 0, none⟩) 2 2)) ∧ W.cell? ⟨w.heap.size + 1 + 1 + 1 + 1 + 1 + 1 + 1 + 1 + 1 + 1 + 1 + 1 + 1 + 1, 1, none⟩ = some (.pointer (some ⟨w.heap.size + 1 + 1 + 1 + 1 + 1 + 1 + 1 + 1 + 1 + 1 + 1 + 1 + 1, 0, none⟩)) ∧ W.cell? ⟨w.heap.size + 1 + 1 + 1 + 1 + 1 + 1 + 1 + 1 + 1 + 1 + 1 + 1 + 1, 4, none⟩ = some (.pointer (some ⟨w.heap.size + 1 + 1 + 1 + 1 + 1 + 1 + 1 + 1 + 1 + 1 + 1 + 1, 0, none⟩)) ∧ W.cell? ⟨w.heap.size + 1 + 1 + 1 + 1 + 1 + 1 + 1 + 1 + 1 + 1 + 1 + 1 + 1, 5, none⟩ = some (.pointer none) ∧ W.cell? ⟨w.heap.size + 1 + 1 + 1 + 1 + 1 + 1 + 1 + 1 + 1 + 1 + 1 + 1, 0, none⟩ = some (.slice (some ⟨w.heap.size + 1 + 1 + 1 + 1 + 1 + 1 + 1 + 1 + 1 + 1 + 1, 0, none⟩) 1 1) ∧ W.cell? ⟨w.heap.size + 1 + 1 + 1 + 1 + 1 + 1 + 1 + 1 + 1 + 1 + 1, 0, none⟩ = some (.iface 37 (.pointer (some ⟨w.heap.size + 1 + 1 + 1 + 1 + 1 + 1 + 1 + 1 + 1 + 1, 0, none⟩))) ∧ W.cell? ⟨w.heap.size + 1 + 1 + 1 + 1 + 1 + 1 + 1 + 1 + 1 + 1, 2, none⟩ = some (.int .u32 a9) ∧ W.cell? ⟨w.heap.size + 1 + 1 + 1 + 1 + 1 + 1 + 1 + 1 + 1 + 1, 3, none⟩ = some (.int .u32 a10) ∧ Below w.heap.size w W) ⟨(by repeat (first | (refine Bk.newAt ?_; simp; done) | refine Bk.alloc ?_ _ | refine Bk.drew ?_)), (by simp [go_sem]), (by simp [go_sem]), (by simp [go_sem]), (by simp [go_sem]), (by simp [go_sem]), (by simp [go_sem]), (by simp [go_sem]), (by go_grown)⟩ ?_
  rintro W ⟨kS, r0, r1, r2, r3, r4, r5, r6, hB⟩
  refine (Stmt_End_nil_false _ _ 1 2 _ _ a0 a1 0 0 a9 a10 false a3 a4 _ kS (by decide) (by omega) (by omega) (by omega) (by omega) (by omega) r0 (fun W1 k => redirChain _ _ _ _ a9 a10 W1 (keepc k r1) (keepc k r2) (keepc k r3) (keepc k r4) (keepc k r5) (keepc k r6))).mono ?_
  rintro e w1 ⟨rfl, hb⟩
  have B1 := bmore hB hb
  have s1 := B1.size
  clear hb hB kS r0 r1 r2 r3 r4 r5 r6
  rw [HA.out, if_pos rfl]
  go_wp2_with (go_at_call 66; go_in)
  go_ret
  exact ⟨rfl, by go_grown⟩
set_option maxHeartbeats 4000000 in
set_option maxRecDepth 100000 in
theorem noTerm_false_n_r2 (a0 : Int) (a1 : Int) (a3 : Bool) (a4 : Bool) (a6 : Int) (a7 : Int) (a9 : Int) (a10 : Int) (b0 : 0 ≤ a0 ∧ a0 ≤ 4294967295) (b1 : 0 ≤ a1 ∧ a1 ≤ 4294967295) (b6 : 0 ≤ a6 ∧ a6 ≤ 4294967295) (b7 : 0 ≤ a7 ∧ a7 ≤ 4294967295) (_b9 : 0 ≤ a9 ∧ a9 ≤ 4294967295) (_b10 : 0 ≤ a10 ∧ a10 ≤ 4294967295) (w : World) (hV : vld a9 a10 = true) (hL : ¬ a0 < a9) :
    Calls Try.prog 11 #[.int .u32 a0, .int .u32 a1, .bool false, .bool a3, .bool a4, .bool false, .int .u32 a6, .int .u32 a7, .bool true, .int .u32 a9, .int .u32 a10] w fun e w' => e = .returned (.bool true) ∧ Below w.heap.size w w' := by
  have k1 := addO_bd a0 a1 1 (by omega) (by omega)
  have k2 := addL_bd a0 a1 1 (by omega) (by omega)
  have k3 := addO_bd a6 a7 1 (by omega) (by omega)
  have k4 := addL_bd a6 a7 1 (by omega) (by omega)
  have ha : aft a9 a10 (a0) = false := by simp [aft, hV]; omega
  have HA := Lib.hid ha
  clear ha
  have hL' : decide (a0 < a9) = false := by simpa using hL
  go_enter Try.func11, Try.ntmps11
  go_wp2_with (first | (go_at_call 66; go_in) | (go_at_call 67; go_in) | (go_at_call 69; refine (n010_11_zzValid_any _ _ _).mono ?_; rintro e w' ⟨rfl, rfl⟩) | (go_at_call 68; refine (n010_11_zzAdd1_any _ _ _ (by omega) (by omega) (by omega) (by omega)).mono ?_; rintro e w' ⟨rfl, rfl⟩))
  refine calls_gen (S := fun W => Bk W (w.heap.size + 1) 72 (stCells (.slice none 0 0) .nilIface a0 a1 0 0 false false a3 a4 (.slice (some ⟨w.heap.size + 1 + 1 + 1 + 1 + 1 + 1 + 1 + 1 + 1 + 1 + 1 + 1 + 1 + 1, 0, none⟩) 2 2)) ∧ W.cell? ⟨w.heap.size + 1 + 1 + 1 + 1 + 1 + 1 + 1 + 1 + 1 + 1 + 1 + 1 + 1 + 1, 1, none⟩ = some (.pointer (some ⟨w.heap.size + 1 + 1 + 1 + 1 + 1 + 1 + 1 + 1 + 1 + 1 + 1 + 1 + 1, 0, none⟩)) ∧ W.cell? ⟨w.heap.size + 1 + 1 + 1 + 1 + 1 + 1 + 1 + 1 + 1 + 1 + 1 + 1 + 1, 4, none⟩ = some (.pointer (some ⟨w.heap.size + 1 + 1 + 1 + 1 + 1 + 1 + 1 + 1 + 1 + 1 + 1 + 1, 0, none⟩)) ∧ W.cell? ⟨w.heap.size + 1 + 1 + 1 + 1 + 1 + 1 + 1 + 1 + 1 + 1 + 1 + 1 + 1, 5, none⟩ = some (.pointer none) ∧ W.cell? ⟨w.heap.size + 1 + 1 + 1 + 1 + 1 + 1 + 1 + 1 + 1 + 1 + 1 + 1, 0, none⟩ = some (.slice (some ⟨w.heap.size + 1 + 1 + 1 + 1 + 1 + 1 + 1 + 1 + 1 + 1 + 1, 0, none⟩) 1 1) ∧ W.cell? ⟨w.heap.size + 1 + 1 + 1 + 1 + 1 + 1 + 1 + 1 + 1 + 1 + 1, 0, none⟩ = some (.iface 37 (.pointer (some ⟨w.heap.size + 1 + 1 + 1 + 1 + 1 + 1 + 1 + 1 + 1 + 1, 0, none⟩))) ∧ W.cell? ⟨w.heap.size + 1 + 1 + 1 + 1 + 1 + 1 + 1 + 1 + 1 + 1, 2, none⟩ = some (.int .u32 a9) ∧ W.cell? ⟨w.heap.size + 1 + 1 + 1 + 1 + 1 + 1 + 1 + 1 + 1 + 1, 3, none⟩ = some (.int .u32 a10) ∧ Below w.heap.size w W) ⟨(by repeat (first | (refine Bk.newAt ?_; simp; done) | refine Bk.alloc ?_ _ | refine Bk.drew ?_)), (by simp [go_sem]), (by simp [go_sem]), (by simp [go_sem]), (by simp [go_sem]), (by simp [go_sem]), (by simp [go_sem]), (by simp [go_sem]), (by go_grown)⟩ ?_
  rintro W ⟨kS, r0, r1, r2, r3, r4, r5, r6, hB⟩
  refine (Stmt_End_nil_false _ _ 1 2 _ _ a0 a1 0 0 a9 a10 false a3 a4 _ kS (by decide) (by omega) (by omega) (by omega) (by omega) (by omega) r0 (fun W1 k => redirChain _ _ _ _ a9 a10 W1 (keepc k r1) (keepc k r2) (keepc k r3) (keepc k r4) (keepc k r5) (keepc k r6))).mono ?_
  rintro e w1 ⟨rfl, hb⟩
  have B1 := bmore hB hb
  have s1 := B1.size
  clear hb hB kS r0 r1 r2 r3 r4 r5 r6
  rw [HA.out, if_neg (by decide)]
  go_wp2_with (go_at_call 66; go_in)
  go_ret
  exact ⟨rfl, by go_grown⟩
set_option maxHeartbeats 4000000 in
set_option maxRecDepth 100000 in
theorem noTerm_false_c_z (a0 : Int) (a1 : Int) (a3 : Bool) (a4 : Bool) (a6 : Int) (a7 : Int) (a9 : Int) (a10 : Int) (b0 : 0 ≤ a0 ∧ a0 ≤ 4294967295) (b1 : 0 ≤ a1 ∧ a1 ≤ 4294967295) (b6 : 0 ≤ a6 ∧ a6 ≤ 4294967295) (b7 : 0 ≤ a7 ∧ a7 ≤ 4294967295) (_b9 : 0 ≤ a9 ∧ a9 ≤ 4294967295) (_b10 : 0 ≤ a10 ∧ a10 ≤ 4294967295) (w : World) :
    Calls Try.prog 11 #[.int .u32 a0, .int .u32 a1, .bool false, .bool a3, .bool a4, .bool true, .int .u32 a6, .int .u32 a7, .bool false, .int .u32 a9, .int .u32 a10] w fun e w' => e = .returned (.bool true) ∧ Below w.heap.size w w' := by
  have k1 := addO_bd a0 a1 1 (by omega) (by omega)
  have k2 := addL_bd a0 a1 1 (by omega) (by omega)
  have k3 := addO_bd a6 a7 1 (by omega) (by omega)
  have k4 := addL_bd a6 a7 1 (by omega) (by omega)
  go_enter Try.func11, Try.ntmps11
  go_wp2_with (first | (go_at_call 66; go_in) | (go_at_call 67; go_in) | (go_at_call 69; refine (n010_11_zzValid_any _ _ _).mono ?_; rintro e w' ⟨rfl, rfl⟩) | (go_at_call 68; refine (n010_11_zzAdd1_any _ _ _ (by omega) (by omega) (by omega) (by omega)).mono ?_; rintro e w' ⟨rfl, rfl⟩))
  refine calls_gen (S := fun W => Bk W (w.heap.size + 1) 72 (stCells (.slice none 0 0) (.iface 107 (.pointer (some ⟨w.heap.size + 1 + 1 + 1, 0, none⟩))) a0 a1 0 0 false false a3 a4 (.slice none 0 0)) ∧ W.cell? ⟨w.heap.size + 1 + 1 + 1, 2, none⟩ = some (.int .u32 a6) ∧ W.cell? ⟨w.heap.size + 1 + 1 + 1, 3, none⟩ = some (.int .u32 a7) ∧ Below w.heap.size w W) ⟨(by repeat (first | (refine Bk.newAt ?_; simp; done) | refine Bk.alloc ?_ _ | refine Bk.drew ?_)), (by simp [go_sem]), (by simp [go_sem]), (by go_grown)⟩ ?_
  rintro W ⟨kS, c2, c3, hB⟩
  refine (Stmt_End_Block _ _ _ a0 a1 0 0 _ _ false false a3 a4 _ kS (by decide) (by omega) (by omega) (by omega) (by omega) (fun W1 k => Block_End_any _ a6 a7 W1 (keepc k c2) (keepc k c3) (by omega) (by omega) (by omega) (by omega))).mono ?_
  rintro e w1 ⟨rfl, hb⟩
  have B1 := bmore hB hb
  have s1 := B1.size
  clear hb hB kS c2 c3
  go_wp2_with (go_at_call 66; go_in)
  go_ret
  exact ⟨rfl, by go_grown⟩
set_option maxHeartbeats 4000000 in
set_option maxRecDepth 100000 in
theorem noTerm_false_c_r0 (a0 : Int) (a1 : Int) (a3 : Bool) (a4 : Bool) (a6 : Int) (a7 : Int) (a9 : Int) (a10 : Int) (b0 : 0 ≤ a0 ∧ a0 ≤ 4294967295) (b1 : 0 ≤ a1 ∧ a1 ≤ 4294967295) (b6 : 0 ≤ a6 ∧ a6 ≤ 4294967295) (b7 : 0 ≤ a7 ∧ a7 ≤ 4294967295) (_b9 : 0 ≤ a9 ∧ a9 ≤ 4294967295) (_b10 : 0 ≤ a10 ∧ a10 ≤ 4294967295) (w : World) (hV : vld a9 a10 = false) :
    Calls Try.prog 11 #[.int .u32 a0, .int .u32 a1, .bool false, .bool a3, .bool a4, .bool true, .int .u32 a6, .int .u32 a7, .bool true, .int .u32 a9, .int .u32 a10] w fun e w' => e = .returned (.bool true) ∧ Below w.heap.size w w' := by
  have k1 := addO_bd a0 a1 1 (by omega) (by omega)
  have k2 := addL_bd a0 a1 1 (by omega) (by omega)
  have k3 := addO_bd a6 a7 1 (by omega) (by omega)
  have k4 := addL_bd a6 a7 1 (by omega) (by omega)
  have ha : aft a9 a10 (addO a6 a7 1) = false := by simp [aft, hV]
  have HA := Lib.hid ha
  clear ha
  go_enter Try.func11, Try.ntmps11
  go_wp2_with (first | (go_at_call 66; go_in) | (go_at_call 67; go_in) | (go_at_call 69; refine (n010_11_zzValid_any _ _ _).mono ?_; rintro e w' ⟨rfl, rfl⟩) | (go_at_call 68; refine (n010_11_zzAdd1_any _ _ _ (by omega) (by omega) (by omega) (by omega)).mono ?_; rintro e w' ⟨rfl, rfl⟩))
  refine calls_gen (S := fun W => Bk W (w.heap.size + 1) 72 (stCells (.slice none 0 0) (.iface 107 (.pointer (some ⟨w.heap.size + 1 + 1 + 1, 0, none⟩))) a0 a1 0 0 false false a3 a4 (.slice (some ⟨w.heap.size + 1 + 1 + 1 + 1 + 1 + 1 + 1 + 1 + 1 + 1 + 1 + 1 + 1 + 1 + 1 + 1, 0, none⟩) 2 2)) ∧ W.cell? ⟨w.heap.size + 1 + 1 + 1, 2, none⟩ = some (.int .u32 a6) ∧ W.cell? ⟨w.heap.size + 1 + 1 + 1, 3, none⟩ = some (.int .u32 a7) ∧ W.cell? ⟨w.heap.size + 1 + 1 + 1 + 1 + 1 + 1 + 1 + 1 + 1 + 1 + 1 + 1 + 1 + 1 + 1 + 1, 1, none⟩ = some (.pointer (some ⟨w.heap.size + 1 + 1 + 1 + 1 + 1 + 1 + 1 + 1 + 1 + 1 + 1 + 1 + 1 + 1 + 1, 0, none⟩)) ∧ W.cell? ⟨w.heap.size + 1 + 1 + 1 + 1 + 1 + 1 + 1 + 1 + 1 + 1 + 1 + 1 + 1 + 1 + 1, 4, none⟩ = some (.pointer (some ⟨w.heap.size + 1 + 1 + 1 + 1 + 1 + 1 + 1 + 1 + 1 + 1 + 1 + 1 + 1 + 1, 0, none⟩)) ∧ W.cell? ⟨w.heap.size + 1 + 1 + 1 + 1 + 1 + 1 + 1 + 1 + 1 + 1 + 1 + 1 + 1 + 1 + 1, 5, none⟩ = some (.pointer none) ∧ W.cell? ⟨w.heap.size + 1 + 1 + 1 + 1 + 1 + 1 + 1 + 1 + 1 + 1 + 1 + 1 + 1 + 1, 0, none⟩ = some (.slice (some ⟨w.heap.size + 1 + 1 + 1 + 1 + 1 + 1 + 1 + 1 + 1 + 1 + 1 + 1 + 1, 0, none⟩) 1 1) ∧ W.cell? ⟨w.heap.size + 1 + 1 + 1 + 1 + 1 + 1 + 1 + 1 + 1 + 1 + 1 + 1 + 1, 0, none⟩ = some (.iface 37 (.pointer (some ⟨w.heap.size + 1 + 1 + 1 + 1 + 1 + 1 + 1 + 1 + 1 + 1 + 1 + 1, 0, none⟩))) ∧ W.cell? ⟨w.heap.size + 1 + 1 + 1 + 1 + 1 + 1 + 1 + 1 + 1 + 1 + 1 + 1, 2, none⟩ = some (.int .u32 a9) ∧ W.cell? ⟨w.heap.size + 1 + 1 + 1 + 1 + 1 + 1 + 1 + 1 + 1 + 1 + 1 + 1, 3, none⟩ = some (.int .u32 a10) ∧ Below w.heap.size w W) ⟨(by repeat (first | (refine Bk.newAt ?_; simp; done) | refine Bk.alloc ?_ _ | refine Bk.drew ?_)), (by simp [go_sem]), (by simp [go_sem]), (by simp [go_sem]), (by simp [go_sem]), (by simp [go_sem]), (by simp [go_sem]), (by simp [go_sem]), (by simp [go_sem]), (by simp [go_sem]), (by go_grown)⟩ ?_
  rintro W ⟨kS, c2, c3, r0, r1, r2, r3, r4, r5, r6, hB⟩
  refine (Stmt_End_Block_false _ _ 1 2 _ _ _ a0 a1 0 0 a9 a10 _ _ false a3 a4 _ kS (by decide) (by omega) (by omega) (by omega) (by omega) (by omega) r0 (fun W1 k => redirChain _ _ _ _ a9 a10 W1 (keepc k r1) (keepc k r2) (keepc k r3) (keepc k r4) (keepc k r5) (keepc k r6)) (fun W1 k => Block_End_any _ a6 a7 W1 (keepc k c2) (keepc k c3) (by omega) (by omega) (by omega) (by omega))).mono ?_
  rintro e w1 ⟨rfl, hb⟩
  have B1 := bmore hB hb
  have s1 := B1.size
  clear hb hB kS c2 c3 r0 r1 r2 r3 r4 r5 r6
  rw [HA.out, if_neg (by decide)]
  go_wp2_with (go_at_call 66; go_in)
  go_ret
  exact ⟨rfl, by go_grown⟩
set_option maxHeartbeats 4000000 in
set_option maxRecDepth 100000 in
theorem noTerm_false_c_r1 (a0 : Int) (a1 : Int) (a3 : Bool) (a4 : Bool) (a6 : Int) (a7 : Int) (a9 : Int) (a10 : Int) (b0 : 0 ≤ a0 ∧ a0 ≤ 4294967295) (b1 : 0 ≤ a1 ∧ a1 ≤ 4294967295) (b6 : 0 ≤ a6 ∧ a6 ≤ 4294967295) (b7 : 0 ≤ a7 ∧ a7 ≤ 4294967295) (_b9 : 0 ≤ a9 ∧ a9 ≤ 4294967295) (_b10 : 0 ≤ a10 ∧ a10 ≤ 4294967295) (w : World) (hV : vld a9 a10 = true) (hL : addO a6 a7 1 < a9) :
    Calls Try.prog 11 #[.int .u32 a0, .int .u32 a1, .bool false, .bool a3, .bool a4, .bool true, .int .u32 a6, .int .u32 a7, .bool true, .int .u32 a9, .int .u32 a10] w fun e w' => e = .returned (.bool true) ∧ Below w.heap.size w w' := by
  have k1 := addO_bd a0 a1 1 (by omega) (by omega)
  have k2 := addL_bd a0 a1 1 (by omega) (by omega)
  have k3 := addO_bd a6 a7 1 (by omega) (by omega)
  have k4 := addL_bd a6 a7 1 (by omega) (by omega)
  have ha : aft a9 a10 (addO a6 a7 1) = true := by simp [aft, hV, hL]
  have HA := Lib.hid ha
  clear ha
  have hL' : decide (addO a6 a7 1 < a9) = true := by simpa using hL
  go_enter Try.func11, Try.ntmps11
  go_wp2_with (first | (go_at_call 66; go_in) | (go_at_call 67; go_in) | (go_at_call 69; refine (n010_11_zzValid_any _ _ _).mono ?_; rintro e w' ⟨rfl, rfl⟩) | (go_at_call 68; refine (n010_11_zzAdd1_any _ _ _ (by omega) (by omega) (by omega) (by omega)).mono ?_; rintro e w' ⟨rfl, rfl⟩))
  refine calls_gen (S := fun W => Bk W (w.heap.size + 1) 72 (stCells (.slice none 0 0) (.iface 107 (.pointer (some ⟨w.heap.size + 1 + 1 + 1, 0, none⟩))) a0 a1 0 0 false false a3 a4 (.slice (some ⟨w.heap.size + 1 + 1 + 1 + 1 + 1 + 1 + 1 + 1 + 1 + 1 + 1 + 1 + 1 + 1 + 1 + 1, 0, none⟩) 2 2)) ∧ W.cell? ⟨w.heap.size + 1 + 1 + 1, 2, none⟩ = some (.int .u32 a6) ∧ W.cell? ⟨w.heap.size + 1 + 1 + 1, 3, none⟩ = some (.int .u32 a7) ∧ W.cell? ⟨w.heap.size + 1 + 1 + 1 + 1 + 1 + 1 + 1 + 1 + 1 + 1 + 1 + 1 + 1 + 1 + 1 + 1, 1, none⟩ = some (.pointer (some ⟨w.heap.size + 1 + 1 + 1 + 1 + 1 + 1 + 1 + 1 + 1 + 1 + 1 + 1 + 1 + 1 + 1, 0, none⟩)) ∧ W.cell? ⟨w.heap.size + 1 + 1 + 1 + 1 + 1 + 1 + 1 + 1 + 1 + 1 + 1 + 1 + 1 + 1 + 1, 4, none⟩ = some (.pointer (some ⟨w.heap.size + 1 + 1 + 1 + 1 + 1 + 1 + 1 + 1 + 1 + 1 + 1 + 1 + 1 + 1, 0, none⟩)) ∧ W.cell? ⟨w.heap.size + 1 + 1 + 1 + 1 + 1 + 1 + 1 + 1 + 1 + 1 + 1 + 1 + 1 + 1 + 1, 5, none⟩ = some (.pointer none) ∧ W.cell? ⟨w.heap.size + 1 + 1 + 1 + 1 + 1 + 1 + 1 + 1 + 1 + 1 + 1 + 1 + 1 + 1, 0, none⟩ = some (.slice (some ⟨w.heap.size + 1 + 1 + 1 + 1 + 1 + 1 + 1 + 1 + 1 + 1 + 1 + 1 + 1, 0, none⟩) 1 1) ∧ W.cell? ⟨w.heap.size + 1 + 1 + 1 + 1 + 1 + 1 + 1 + 1 + 1 + 1 + 1 + 1 + 1, 0, none⟩ = some (.iface 37 (.pointer (some ⟨w.heap.size + 1 + 1 + 1 + 1 + 1 + 1 + 1 + 1 + 1 + 1 + 1 + 1, 0, none⟩))) ∧ W.cell? ⟨w.heap.size + 1 + 1 + 1 + 1 + 1 + 1 + 1 + 1 + 1 + 1 + 1 + 1, 2, none⟩ = some (.int .u32 a9) ∧ W.cell? ⟨w.heap.size + 1 + 1 + 1 + 1 + 1 + 1 + 1 + 1 + 1 + 1 + 1 + 1, 3, none⟩ = some (.int .u32 a10) ∧ Below w.heap.size w W) ⟨(by repeat (first | (refine Bk.newAt ?_; simp; done) | refine Bk.alloc ?_ _ | refine Bk.drew ?_)), (by simp [go_sem]), (by simp [go_sem]), (by simp [go_sem]), (by simp [go_sem]), (by simp [go_sem]), (by simp [go_sem]), (by simp [go_sem]), (by simp [go_sem]), (by simp [go_sem]), (by go_grown)⟩ ?_
  rintro W ⟨kS, c2, c3, r0, r1, r2, r3, r4, r5, r6, hB⟩
  refine (Stmt_End_Block_false _ _ 1 2 _ _ _ a0 a1 0 0 a9 a10 _ _ false a3 a4 _ kS (by decide) (by omega) (by omega) (by omega) (by omega) (by omega) r0 (fun W1 k => redirChain _ _ _ _ a9 a10 W1 (keepc k r1) (keepc k r2) (keepc k r3) (keepc k r4) (keepc k r5) (keepc k r6)) (fun W1 k => Block_End_any _ a6 a7 W1 (keepc k c2) (keepc k c3) (by omega) (by omega) (by omega) (by omega))).mono ?_
  rintro e w1 ⟨rfl, hb⟩
  have B1 := bmore hB hb
  have s1 := B1.size
  clear hb hB kS c2 c3 r0 r1 r2 r3 r4 r5 r6
  rw [HA.out, if_pos rfl]
  go_wp2_with (go_at_call 66; go_in)
  go_ret
  exact ⟨rfl, by go_grown⟩
set_option maxHeartbeats 4000000 in
set_option maxRecDepth 100000 in
theorem noTerm_false_c_r2 (a0 : Int) (a1 : Int) (a3 : Bool) (a4 : Bool) (a6 : Int) (a7 : Int) (a9 : Int) (a10 : Int) (b0 : 0 ≤ a0 ∧ a0 ≤ 4294967295) (b1 : 0 ≤ a1 ∧ a1 ≤ 4294967295) (b6 : 0 ≤ a6 ∧ a6 ≤ 4294967295) (b7 : 0 ≤ a7 ∧ a7 ≤ 4294967295) (_b9 : 0 ≤ a9 ∧ a9 ≤ 4294967295) (_b10 : 0 ≤ a10 ∧ a10 ≤ 4294967295) (w : World) (hV : vld a9 a10 = true) (hL : ¬ addO a6 a7 1 < a9) :
    Calls Try.prog 11 #[.int .u32 a0, .int .u32 a1, .bool false, .bool a3, .bool a4, .bool true, .int .u32 a6, .int .u32 a7, .bool true, .int .u32 a9, .int .u32 a10] w fun e w' => e = .returned (.bool true) ∧ Below w.heap.size w w' := by
  have k1 := addO_bd a0 a1 1 (by omega) (by omega)
  have k2 := addL_bd a0 a1 1 (by omega) (by omega)
  have k3 := addO_bd a6 a7 1 (by omega) (by omega)
  have k4 := addL_bd a6 a7 1 (by omega) (by omega)
  have ha : aft a9 a10 (addO a6 a7 1) = false := by simp [aft, hV]; omega
  have HA := Lib.hid ha
  clear ha
  have hL' : decide (addO a6 a7 1 < a9) = false := by simpa using hL
  go_enter Try.func11, Try.ntmps11
  go_wp2_with (first | (go_at_call 66; go_in) | (go_at_call 67; go_in) | (go_at_call 69; refine (n010_11_zzValid_any _ _ _).mono ?_; rintro e w' ⟨rfl, rfl⟩) | (go_at_call 68; refine (n010_11_zzAdd1_any _ _ _ (by omega) (by omega) (by omega) (by omega)).mono ?_; rintro e w' ⟨rfl, rfl⟩))
  refine calls_gen (S := fun W => Bk W (w.heap.size + 1) 72 (stCells (.slice none 0 0) (.iface 107 (.pointer (some ⟨w.heap.size + 1 + 1 + 1, 0, none⟩))) a0 a1 0 0 false false a3 a4 (.slice (some ⟨w.heap.size + 1 + 1 + 1 + 1 + 1 + 1 + 1 + 1 + 1 + 1 + 1 + 1 + 1 + 1 + 1 + 1, 0, none⟩) 2 2)) ∧ W.cell? ⟨w.heap.size + 1 + 1 + 1, 2, none⟩ = some (.int .u32 a6) ∧ W.cell? ⟨w.heap.size + 1 + 1 + 1, 3, none⟩ = some (.int .u32 a7) ∧ W.cell? ⟨w.heap.size + 1 + 1 + 1 + 1 + 1 + 1 + 1 + 1 + 1 + 1 + 1 + 1 + 1 + 1 + 1 + 1, 1, none⟩ = some (.pointer (some ⟨w.heap.size + 1 + 1 + 1 + 1 + 1 + 1 + 1 + 1 + 1 + 1 + 1 + 1 + 1 + 1 + 1, 0, none⟩)) ∧ W.cell? ⟨w.heap.size + 1 + 1 + 1 + 1 + 1 + 1 + 1 + 1 + 1 + 1 + 1 + 1 + 1 + 1 + 1, 4, none⟩ = some (.pointer (some ⟨w.heap.size + 1 + 1 + 1 + 1 + 1 + 1 + 1 + 1 + 1 + 1 + 1 + 1 + 1 + 1, 0, none⟩)) ∧ W.cell? ⟨w.heap.size + 1 + 1 + 1 + 1 + 1 + 1 + 1 + 1 + 1 + 1 + 1 + 1 + 1 + 1 + 1, 5, none⟩ = some (.pointer none) ∧ W.cell? ⟨w.heap.size + 1 + 1 + 1 + 1 + 1 + 1 + 1 + 1 + 1 + 1 + 1 + 1 + 1 + 1, 0, none⟩ = some (.slice (some ⟨w.heap.size + 1 + 1 + 1 + 1 + 1 + 1 + 1 + 1 + 1 + 1 + 1 + 1 + 1, 0, none⟩) 1 1) ∧ W.cell? ⟨w.heap.size + 1 + 1 + 1 + 1 + 1 + 1 + 1 + 1 + 1 + 1 + 1 + 1 + 1, 0, none⟩ = some (.iface 37 (.pointer (some ⟨w.heap.size + 1 + 1 + 1 + 1 + 1 + 1 + 1 + 1 + 1 + 1 + 1 + 1, 0, none⟩))) ∧ W.cell? ⟨w.heap.size + 1 + 1 + 1 + 1 + 1 + 1 + 1 + 1 + 1 + 1 + 1 + 1, 2, none⟩ = some (.int .u32 a9) ∧ W.cell? ⟨w.heap.size + 1 + 1 + 1 + 1 + 1 + 1 + 1 + 1 + 1 + 1 + 1 + 1, 3, none⟩ = some (.int .u32 a10) ∧ Below w.heap.size w W) ⟨(by repeat (first | (refine Bk.newAt ?_; simp; done) | refine Bk.alloc ?_ _ | refine Bk.drew ?_)), (by simp [go_sem]), (by simp [go_sem]), (by simp [go_sem]), (by simp [go_sem]), (by simp [go_sem]), (by simp [go_sem]), (by simp [go_sem]), (by simp [go_sem]), (by simp [go_sem]), (by go_grown)⟩ ?_
  rintro W ⟨kS, c2, c3, r0, r1, r2, r3, r4, r5, r6, hB⟩
  refine (Stmt_End_Block_false _ _ 1 2 _ _ _ a0 a1 0 0 a9 a10 _ _ false a3 a4 _ kS (by decide) (by omega) (by omega) (by omega) (by omega) (by omega) r0 (fun W1 k => redirChain _ _ _ _ a9 a10 W1 (keepc k r1) (keepc k r2) (keepc k r3) (keepc k r4) (keepc k r5) (keepc k r6)) (fun W1 k => Block_End_any _ a6 a7 W1 (keepc k c2) (keepc k c3) (by omega) (by omega) (by omega) (by omega))).mono ?_
  rintro e w1 ⟨rfl, hb⟩
  have B1 := bmore hB hb
  have s1 := B1.size
  clear hb hB kS c2 c3 r0 r1 r2 r3 r4 r5 r6
  rw [HA.out, if_neg (by decide)]
  go_wp2_with (go_at_call 66; go_in)
  go_ret
  exact ⟨rfl, by go_grown⟩
set_option maxHeartbeats 4000000 in
set_option maxRecDepth 100000 in
theorem noTerm_true_n_z (a0 : Int) (a1 : Int) (a3 : Bool) (a4 : Bool) (a6 : Int) (a7 : Int) (a9 : Int) (a10 : Int) (b0 : 0 ≤ a0 ∧ a0 ≤ 4294967295) (b1 : 0 ≤ a1 ∧ a1 ≤ 4294967295) (b6 : 0 ≤ a6 ∧ a6 ≤ 4294967295) (b7 : 0 ≤ a7 ∧ a7 ≤ 4294967295) (_b9 : 0 ≤ a9 ∧ a9 ≤ 4294967295) (_b10 : 0 ≤ a10 ∧ a10 ≤ 4294967295) (w : World) :
    Calls Try.prog 11 #[.int .u32 a0, .int .u32 a1, .bool true, .bool a3, .bool a4, .bool false, .int .u32 a6, .int .u32 a7, .bool false, .int .u32 a9, .int .u32 a10] w fun e w' => e = .returned (.bool true) ∧ Below w.heap.size w w' := by
  have k1 := addO_bd a0 a1 1 (by omega) (by omega)
  have k2 := addL_bd a0 a1 1 (by omega) (by omega)
  have k3 := addO_bd a6 a7 1 (by omega) (by omega)
  have k4 := addL_bd a6 a7 1 (by omega) (by omega)
  go_enter Try.func11, Try.ntmps11
  go_wp2_with (first | (go_at_call 66; go_in) | (go_at_call 67; go_in) | (go_at_call 69; refine (n010_11_zzValid_any _ _ _).mono ?_; rintro e w' ⟨rfl, rfl⟩) | (go_at_call 68; refine (n010_11_zzAdd1_any _ _ _ (by omega) (by omega) (by omega) (by omega)).mono ?_; rintro e w' ⟨rfl, rfl⟩))
  refine calls_gen (S := fun W => Bk W (w.heap.size + 1) 72 (stCells (.slice none 0 0) .nilIface a0 a1 0 0 true false a3 a4 (.slice none 0 0)) ∧ Below w.heap.size w W) ⟨(by repeat (first | (refine Bk.newAt ?_; simp; done) | refine Bk.alloc ?_ _ | refine Bk.drew ?_)), (by go_grown)⟩ ?_
  rintro W ⟨kS, hB⟩
  refine (Stmt_End_bare _ _ a0 a1 0 0 true false a3 a4 _ kS (by decide) (by omega) (by omega) (by omega) (by omega)).mono ?_
  rintro e w1 ⟨rfl, hb⟩
  have B1 := bmore hB hb
  have s1 := B1.size
  clear hb hB kS
  rw [if_pos rfl]
  go_wp2_with (go_at_call 66; go_in)
  go_ret
  exact ⟨rfl, by go_grown⟩
set_option maxHeartbeats 4000000 in
set_option maxRecDepth 100000 in
theorem noTerm_true_n_r0 (a0 : Int) (a1 : Int) (a3 : Bool) (a4 : Bool) (a6 : Int) (a7 : Int) (a9 : Int) (a10 : Int) (b0 : 0 ≤ a0 ∧ a0 ≤ 4294967295) (b1 : 0 ≤ a1 ∧ a1 ≤ 4294967295) (b6 : 0 ≤ a6 ∧ a6 ≤ 4294967295) (b7 : 0 ≤ a7 ∧ a7 ≤ 4294967295) (_b9 : 0 ≤ a9 ∧ a9 ≤ 4294967295) (_b10 : 0 ≤ a10 ∧ a10 ≤ 4294967295) (w : World) (hV : vld a9 a10 = false) :
    Calls Try.prog 11 #[.int .u32 a0, .int .u32 a1, .bool true, .bool a3, .bool a4, .bool false, .int .u32 a6, .int .u32 a7, .bool true, .int .u32 a9, .int .u32 a10] w fun e w' => e = .returned (.bool true) ∧ Below w.heap.size w w' := by
  have k1 := addO_bd a0 a1 1 (by omega) (by omega)
  have k2 := addL_bd a0 a1 1 (by omega) (by omega)
  have k3 := addO_bd a6 a7 1 (by omega) (by omega)
  have k4 := addL_bd a6 a7 1 (by omega) (by omega)
  have ha : aft a9 a10 (addO a0 a1 1) = false := by simp [aft, hV]
  have HA := Lib.hid ha
  clear ha
  go_enter Try.func11, Try.ntmps11
  go_wp2_with (first | (go_at_call 66; go_in) | (go_at_call 67; go_in) | (go_at_call 69; refine (n010_11_zzValid_any _ _ _).mono ?_; rintro e w' ⟨rfl, rfl⟩) | (go_at_call 68; refine (n010_11_zzAdd1_any _ _ _ (by omega) (by omega) (by omega) (by omega)).mono ?_; rintro e w' ⟨rfl, rfl⟩))
  refine calls_gen (S := fun W => Bk W (w.heap.size + 1) 72 (stCells (.slice none 0 0) .nilIface a0 a1 0 0 true false a3 a4 (.slice (some ⟨w.heap.size + 1 + 1 + 1 + 1 + 1 + 1 + 1 + 1 + 1 + 1 + 1 + 1 + 1 + 1, 0, none⟩) 2 2)) ∧ W.cell? ⟨w.heap.size + 1 + 1 + 1 + 1 + 1 + 1 + 1 + 1 + 1 + 1 + 1 + 1 + 1 + 1, 1, none⟩ = some (.pointer (some ⟨w.heap.size + 1 + 1 + 1 + 1 + 1 + 1 + 1 + 1 + 1 + 1 + 1 + 1 + 1, 0, none⟩)) ∧ W.cell? ⟨w.heap.size + 1 + 1 + 1 + 1 + 1 + 1 + 1 + 1 + 1 + 1 + 1 + 1 + 1, 4, none⟩ = some (.pointer (some ⟨w.heap.size + 1 + 1 + 1 + 1 + 1 + 1 + 1 + 1 + 1 + 1 + 1 + 1, 0, none⟩)) ∧ W.cell? ⟨w.heap.size + 1 + 1 + 1 + 1 + 1 + 1 + 1 + 1 + 1 + 1 + 1 + 1 + 1, 5, none⟩ = some (.pointer none) ∧ W.cell? ⟨w.heap.size + 1 + 1 + 1 + 1 + 1 + 1 + 1 + 1 + 1 + 1 + 1 + 1, 0, none⟩ = some (.slice (some ⟨w.heap.size + 1 + 1 + 1 + 1 + 1 + 1 + 1 + 1 + 1 + 1 + 1, 0, none⟩) 1 1) ∧ W.cell? ⟨w.heap.size + 1 + 1 + 1 + 1 + 1 + 1 + 1 + 1 + 1 + 1 + 1, 0, none⟩ = some (.iface 37 (.pointer (some ⟨w.heap.size + 1 + 1 + 1 + 1 + 1 + 1 + 1 + 1 + 1 + 1, 0, none⟩))) ∧ W.cell? ⟨w.heap.size + 1 + 1 + 1 + 1 + 1 + 1 + 1 + 1 + 1 + 1, 2, none⟩ = some (.int .u32 a9) ∧ W.cell? ⟨w.heap.size + 1 + 1 + 1 + 1 + 1 + 1 + 1 + 1 + 1 + 1, 3, none⟩ = some (.int .u32 a10) ∧ Below w.heap.size w W) ⟨(by repeat (first | (refine Bk.newAt ?_; simp; done) | refine Bk.alloc ?_ _ | refine Bk.drew ?_)), (by simp [go_sem]), (by simp [go_sem]), (by simp [go_sem]), (by simp [go_sem]), (by simp [go_sem]), (by simp [go_sem]), (by simp [go_sem]), (by go_grown)⟩ ?_
  rintro W ⟨kS, r0, r1, r2, r3, r4, r5, r6, hB⟩
  refine (Stmt_End_nil_true _ _ 1 2 _ _ a0 a1 0 0 a9 a10 false a3 a4 _ kS (by decide) (by omega) (by omega) (by omega) (by omega) (by omega) r0 (fun W1 k => redirChain _ _ _ _ a9 a10 W1 (keepc k r1) (keepc k r2) (keepc k r3) (keepc k r4) (keepc k r5) (keepc k r6))).mono ?_
  rintro e w1 ⟨rfl, hb⟩
  have B1 := bmore hB hb
  have s1 := B1.size
  clear hb hB kS r0 r1 r2 r3 r4 r5 r6
  rw [HA.out, if_neg (by decide)]
  go_wp2_with (go_at_call 66; go_in)
  go_ret
  exact ⟨rfl, by go_grown⟩
set_option maxHeartbeats 4000000 in
set_option maxRecDepth 100000 in
theorem noTerm_true_n_r1 (a0 : Int) (a1 : Int) (a3 : Bool) (a4 : Bool) (a6 : Int) (a7 : Int) (a9 : Int) (a10 : Int) (b0 : 0 ≤ a0 ∧ a0 ≤ 4294967295) (b1 : 0 ≤ a1 ∧ a1 ≤ 4294967295) (b6 : 0 ≤ a6 ∧ a6 ≤ 4294967295) (b7 : 0 ≤ a7 ∧ a7 ≤ 4294967295) (_b9 : 0 ≤ a9 ∧ a9 ≤ 4294967295) (_b10 : 0 ≤ a10 ∧ a10 ≤ 4294967295) (w : World) (hV : vld a9 a10 = true) (hL : addO a0 a1 1 < a9) :
    Calls Try.prog 11 #[.int .u32 a0, .int .u32 a1, .bool true, .bool a3, .bool a4, .bool false, .int .u32 a6, .int .u32 a7, .bool true, .int .u32 a9, .int .u32 a10] w fun e w' => e = .returned (.bool true) ∧ Below w.heap.size w w' := by
  have k1 := addO_bd a0 a1 1 (by omega) (by omega)
  have k2 := addL_bd a0 a1 1 (by omega) (by omega)
  have k3 := addO_bd a6 a7 1 (by omega) (by omega)
  have k4 := addL_bd a6 a7 1 (by omega) (by omega)
  have ha : aft a9 a10 (addO a0 a1 1) = true := by simp [aft, hV, hL]
  have HA := Lib.hid ha
  clear ha
  have hL' : decide (addO a0 a1 1 < a9) = true := by simpa using hL
  go_enter Try.func11, Try.ntmps11
  go_wp2_with (first | (go_at_call 66; go_in) | (go_at_call 67; go_in) | (go_at_call 69; refine (n010_11_zzValid_any _ _ _).mono ?_; rintro e w' ⟨rfl, rfl⟩) | (go_at_call 68; refine (n010_11_zzAdd1_any _ _ _ (by omega) (by omega) (by omega) (by omega)).mono ?_; rintro e w' ⟨rfl, rfl⟩))
  refine calls_gen (S := fun W => Bk W (w.heap.size + 1) 72 (stCells (.slice none 0 0) .nilIface a0 a1 0 0 true false a3 a4 (.slice (some ⟨w.heap.size + 1 + 1 + 1 + 1 + 1 + 1 + 1 + 1 + 1 + 1 + 1 + 1 + 1 + 1, 0, none⟩) 2 2)) ∧ W.cell? ⟨w.heap.size + 1 + 1 + 1 + 1 + 1 + 1 + 1 + 1 + 1 + 1 + 1 + 1 + 1 + 1, 1, none⟩ = some (.pointer (some ⟨w.heap.size + 1 + 1 + 1 + 1 + 1 + 1 + 1 + 1 + 1 + 1 + 1 + 1 + 1, 0, none⟩)) ∧ W.cell? ⟨w.heap.size + 1 + 1 + 1 + 1 + 1 + 1 + 1 + 1 + 1 + 1 + 1 + 1 + 1, 4, none⟩ = some (.pointer (some ⟨w.heap.size + 1 + 1 + 1 + 1 + 1 + 1 + 1 + 1 + 1 + 1 + 1 + 1, 0, none⟩)) ∧ W.cell? ⟨w.heap.size + 1 + 1 + 1 + 1 + 1 + 1 + 1 + 1 + 1 + 1 + 1 + 1 + 1, 5, none⟩ = some (.pointer none) ∧ W.cell? ⟨w.heap.size + 1 + 1 + 1 + 1 + 1 + 1 + 1 + 1 + 1 + 1 + 1 + 1, 0, none⟩ = some (.slice (some ⟨w.heap.size + 1 + 1 + 1 + 1 + 1 + 1 + 1 + 1 + 1 + 1 + 1, 0, none⟩) 1 1) ∧ W.cell? ⟨w.heap.size + 1 + 1 + 1 + 1 + 1 + 1 + 1 + 1 + 1 + 1 + 1, 0, none⟩ = some (.iface 37 (.pointer (some ⟨w.heap.size + 1 + 1 + 1 + 1 + 1 + 1 + 1 + 1 + 1 + 1, 0, none⟩))) ∧ W.cell? ⟨w.heap.size + 1 + 1 + 1 + 1 + 1 + 1 + 1 + 1 + 1 + 1, 2, none⟩ = some (.int .u32 a9) ∧ W.cell? ⟨w.heap.size + 1 + 1 + 1 + 1 + 1 + 1 + 1 + 1 + 1 + 1, 3, none⟩ = some (.int .u32 a10) ∧ Below w.heap.size w W) ⟨(by repeat (first | (refine Bk.newAt ?_; simp; done) | refine Bk.alloc ?_ _ | refine Bk.drew ?_)), (by simp [go_sem]), (by simp [go_sem]), (by simp [go_sem]), (by simp [go_sem]), (by simp [go_sem]), (by simp [go_sem]), (by simp [go_sem]), (by go_grown)⟩ ?_
  rintro W ⟨kS, r0, r1, r2, r3, r4, r5, r6, hB⟩
  refine (Stmt_End_nil_true _ _ 1 2 _ _ a0 a1 0 0 a9 a10 false a3 a4 _ kS (by decide) (by omega) (by omega) (by omega) (by omega) (by omega) r0 (fun W1 k => redirChain _ _ _ _ a9 a10 W1 (keepc k r1) (keepc k r2) (keepc k r3) (keepc k r4) (keepc k r5) (keepc k r6))).mono ?_
  rintro e w1 ⟨rfl, hb⟩
  have B1 := bmore hB hb
  have s1 := B1.size
  clear hb hB kS r0 r1 r2 r3 r4 r5 r6
  rw [HA.out, if_pos rfl]
  go_wp2_with (go_at_call 66; go_in)
  go_ret
  exact ⟨rfl, by go_grown⟩
set_option maxHeartbeats 4000000 in
set_option maxRecDepth 100000 in
theorem noTerm_true_n_r2 (a0 : Int) (a1 : Int) (a3 : Bool) (a4 : Bool) (a6 : Int) (a7 : Int) (a9 : Int) (a10 : Int) (b0 : 0 ≤ a0 ∧ a0 ≤ 4294967295) (b1 : 0 ≤ a1 ∧ a1 ≤ 4294967295) (b6 : 0 ≤ a6 ∧ a6 ≤ 4294967295) (b7 : 0 ≤ a7 ∧ a7 ≤ 4294967295) (_b9 : 0 ≤ a9 ∧ a9 ≤ 4294967295) (_b10 : 0 ≤ a10 ∧ a10 ≤ 4294967295) (w : World) (hV : vld a9 a10 = true) (hL : ¬ addO a0 a1 1 < a9) :
    Calls Try.prog 11 #[.int .u32 a0, .int .u32 a1, .bool true, .bool a3, .bool a4, .bool false, .int .u32 a6, .int .u32 a7, .bool true, .int .u32 a9, .int .u32 a10] w fun e w' => e = .returned (.bool true) ∧ Below w.heap.size w w' := by
  have k1 := addO_bd a0 a1 1 (by omega) (by omega)
  have k2 := addL_bd a0 a1 1 (by omega) (by omega)
  have k3 := addO_bd a6 a7 1 (by omega) (by omega)
  have k4 := addL_bd a6 a7 1 (by omega) (by omega)
  have ha : aft a9 a10 (addO a0 a1 1) = false := by simp [aft, hV]; omega
  have HA := Lib.hid ha
  clear ha
  have hL' : decide (addO a0 a1 1 < a9) = false := by simpa using hL
  go_enter Try.func11, Try.ntmps11
  go_wp2_with (first | (go_at_call 66; go_in) | (go_at_call 67; go_in) | (go_at_call 69; refine (n010_11_zzValid_any _ _ _).mono ?_; rintro e w' ⟨rfl, rfl⟩) | (go_at_call 68; refine (n010_11_zzAdd1_any _ _ _ (by omega) (by omega) (by omega) (by omega)).mono ?_; rintro e w' ⟨rfl, rfl⟩))
  refine calls_gen (S := fun W => Bk W (w.heap.size + 1) 72 (stCells (.slice none 0 0) .nilIface a0 a1 0 0 true false a3 a4 (.slice (some ⟨w.heap.size + 1 + 1 + 1 + 1 + 1 + 1 + 1 + 1 + 1 + 1 + 1 + 1 + 1 + 1, 0, none⟩) 2 2)) ∧ W.cell? ⟨w.heap.size + 1 + 1 + 1 + 1 + 1 + 1 + 1 + 1 + 1 + 1 + 1 + 1 + 1 + 1, 1, none⟩ = some (.pointer (some ⟨w.heap.size + 1 + 1 + 1 + 1 + 1 + 1 + 1 + 1 + 1 + 1 + 1 + 1 + 1, 0, none⟩)) ∧ W.cell? ⟨w.heap.size + 1 + 1 + 1 + 1 + 1 + 1 + 1 + 1 + 1 + 1 + 1 + 1 + 1, 4, none⟩ = some (.pointer (some ⟨w.heap.size + 1 + 1 + 1 + 1 + 1 + 1 + 1 + 1 + 1 + 1 + 1 + 1, 0, none⟩)) ∧ W.cell? ⟨w.heap.size + 1 + 1 + 1 + 1 + 1 + 1 + 1 + 1 + 1 + 1 + 1 + 1 + 1, 5, none⟩ = some (.pointer none) ∧ W.cell? ⟨w.heap.size + 1 + 1 + 1 + 1 + 1 + 1 + 1 + 1 + 1 + 1 + 1 + 1, 0, none⟩ = some (.slice (some ⟨w.heap.size + 1 + 1 + 1 + 1 + 1 + 1 + 1 + 1 + 1 + 1 + 1, 0, none⟩) 1 1) ∧ W.cell? ⟨w.heap.size + 1 + 1 + 1 + 1 + 1 + 1 + 1 + 1 + 1 + 1 + 1, 0, none⟩ = some (.iface 37 (.pointer (some ⟨w.heap.size + 1 + 1 + 1 + 1 + 1 + 1 + 1 + 1 + 1 + 1, 0, none⟩))) ∧ W.cell? ⟨w.heap.size + 1 + 1 + 1 + 1 + 1 + 1 + 1 + 1 + 1 + 1, 2, none⟩ = some (.int .u32 a9) ∧ W.cell? ⟨w.heap.size + 1 + 1 + 1 + 1 + 1 + 1 + 1 + 1 + 1 + 1, 3, none⟩ = some (.int .u32 a10) ∧ Below w.heap.size w W) ⟨(by repeat (first | (refine Bk.newAt ?_; simp; done) | refine Bk.alloc ?_ _ | refine Bk.drew ?_)), (by simp [go_sem]), (by simp [go_sem]), (by simp [go_sem]), (by simp [go_sem]), (by simp [go_sem]), (by simp [go_sem]), (by simp [go_sem]), (by go_grown)⟩ ?_
  rintro W ⟨kS, r0, r1, r2, r3, r4, r5, r6, hB⟩
  refine (Stmt_End_nil_true _ _ 1 2 _ _ a0 a1 0 0 a9 a10 false a3 a4 _ kS (by decide) (by omega) (by omega) (by omega) (by omega) (by omega) r0 (fun W1 k => redirChain _ _ _ _ a9 a10 W1 (keepc k r1) (keepc k r2) (keepc k r3) (keepc k r4) (keepc k r5) (keepc k r6))).mono ?_
  rintro e w1 ⟨rfl, hb⟩
  have B1 := bmore hB hb
  have s1 := B1.size
  clear hb hB kS r0 r1 r2 r3 r4 r5 r6
  rw [HA.out, if_neg (by decide)]
  go_wp2_with (go_at_call 66; go_in)
  go_ret
  exact ⟨rfl, by go_grown⟩
set_option maxHeartbeats 4000000 in
set_option maxRecDepth 100000 in
theorem noTerm_true_c_z (a0 : Int) (a1 : Int) (a3 : Bool) (a4 : Bool) (a6 : Int) (a7 : Int) (a9 : Int) (a10 : Int) (b0 : 0 ≤ a0 ∧ a0 ≤ 4294967295) (b1 : 0 ≤ a1 ∧ a1 ≤ 4294967295) (b6 : 0 ≤ a6 ∧ a6 ≤ 4294967295) (b7 : 0 ≤ a7 ∧ a7 ≤ 4294967295) (_b9 : 0 ≤ a9 ∧ a9 ≤ 4294967295) (_b10 : 0 ≤ a10 ∧ a10 ≤ 4294967295) (w : World) :
    Calls Try.prog 11 #[.int .u32 a0, .int .u32 a1, .bool true, .bool a3, .bool a4, .bool true, .int .u32 a6, .int .u32 a7, .bool false, .int .u32 a9, .int .u32 a10] w fun e w' => e = .returned (.bool true) ∧ Below w.heap.size w w' := by
  have k1 := addO_bd a0 a1 1 (by omega) (by omega)
  have k2 := addL_bd a0 a1 1 (by omega) (by omega)
  have k3 := addO_bd a6 a7 1 (by omega) (by omega)
  have k4 := addL_bd a6 a7 1 (by omega) (by omega)
  go_enter Try.func11, Try.ntmps11
  go_wp2_with (first | (go_at_call 66; go_in) | (go_at_call 67; go_in) | (go_at_call 69; refine (n010_11_zzValid_any _ _ _).mono ?_; rintro e w' ⟨rfl, rfl⟩) | (go_at_call 68; refine (n010_11_zzAdd1_any _ _ _ (by omega) (by omega) (by omega) (by omega)).mono ?_; rintro e w' ⟨rfl, rfl⟩))
  refine calls_gen (S := fun W => Bk W (w.heap.size + 1) 72 (stCells (.slice none 0 0) (.iface 107 (.pointer (some ⟨w.heap.size + 1 + 1 + 1, 0, none⟩))) a0 a1 0 0 true false a3 a4 (.slice none 0 0)) ∧ W.cell? ⟨w.heap.size + 1 + 1 + 1, 2, none⟩ = some (.int .u32 a6) ∧ W.cell? ⟨w.heap.size + 1 + 1 + 1, 3, none⟩ = some (.int .u32 a7) ∧ Below w.heap.size w W) ⟨(by repeat (first | (refine Bk.newAt ?_; simp; done) | refine Bk.alloc ?_ _ | refine Bk.drew ?_)), (by simp [go_sem]), (by simp [go_sem]), (by go_grown)⟩ ?_
  rintro W ⟨kS, c2, c3, hB⟩
  refine (Stmt_End_Block _ _ _ a0 a1 0 0 _ _ true false a3 a4 _ kS (by decide) (by omega) (by omega) (by omega) (by omega) (fun W1 k => Block_End_any _ a6 a7 W1 (keepc k c2) (keepc k c3) (by omega) (by omega) (by omega) (by omega))).mono ?_
  rintro e w1 ⟨rfl, hb⟩
  have B1 := bmore hB hb
  have s1 := B1.size
  clear hb hB kS c2 c3
  go_wp2_with (go_at_call 66; go_in)
  go_ret
  exact ⟨rfl, by go_grown⟩
set_option maxHeartbeats 4000000 in
set_option maxRecDepth 100000 in
theorem noTerm_true_c_r0 (a0 : Int) (a1 : Int) (a3 : Bool) (a4 : Bool) (a6 : Int) (a7 : Int) (a9 : Int) (a10 : Int) (b0 : 0 ≤ a0 ∧ a0 ≤ 4294967295) (b1 : 0 ≤ a1 ∧ a1 ≤ 4294967295) (b6 : 0 ≤ a6 ∧ a6 ≤ 4294967295) (b7 : 0 ≤ a7 ∧ a7 ≤ 4294967295) (_b9 : 0 ≤ a9 ∧ a9 ≤ 4294967295) (_b10 : 0 ≤ a10 ∧ a10 ≤ 4294967295) (w : World) (hV : vld a9 a10 = false) :
    Calls Try.prog 11 #[.int .u32 a0, .int .u32 a1, .bool true, .bool a3, .bool a4, .bool true, .int .u32 a6, .int .u32 a7, .bool true, .int .u32 a9, .int .u32 a10] w fun e w' => e = .returned (.bool true) ∧ Below w.heap.size w w' := by
  have k1 := addO_bd a0 a1 1 (by omega) (by omega)
  have k2 := addL_bd a0 a1 1 (by omega) (by omega)
  have k3 := addO_bd a6 a7 1 (by omega) (by omega)
  have k4 := addL_bd a6 a7 1 (by omega) (by omega)
  have ha : aft a9 a10 (addO a6 a7 1) = false := by simp [aft, hV]
  have HA := Lib.hid ha
  clear ha
  go_enter Try.func11, Try.ntmps11
  go_wp2_with (first | (go_at_call 66; go_in) | (go_at_call 67; go_in) | (go_at_call 69; refine (n010_11_zzValid_any _ _ _).mono ?_; rintro e w' ⟨rfl, rfl⟩) | (go_at_call 68; refine (n010_11_zzAdd1_any _ _ _ (by omega) (by omega) (by omega) (by omega)).mono ?_; rintro e w' ⟨rfl, rfl⟩))
  refine calls_gen (S := fun W => Bk W (w.heap.size + 1) 72 (stCells (.slice none 0 0) (.iface 107 (.pointer (some ⟨w.heap.size + 1 + 1 + 1, 0, none⟩))) a0 a1 0 0 true false a3 a4 (.slice (some ⟨w.heap.size + 1 + 1 + 1 + 1 + 1 + 1 + 1 + 1 + 1 + 1 + 1 + 1 + 1 + 1 + 1 + 1, 0, none⟩) 2 2)) ∧ W.cell? ⟨w.heap.size + 1 + 1 + 1, 2, none⟩ = some (.int .u32 a6) ∧ W.cell? ⟨w.heap.size + 1 + 1 + 1, 3, none⟩ = some (.int .u32 a7) ∧ W.cell? ⟨w.heap.size + 1 + 1 + 1 + 1 + 1 + 1 + 1 + 1 + 1 + 1 + 1 + 1 + 1 + 1 + 1 + 1, 1, none⟩ = some (.pointer (some ⟨w.heap.size + 1 + 1 + 1 + 1 + 1 + 1 + 1 + 1 + 1 + 1 + 1 + 1 + 1 + 1 + 1, 0, none⟩)) ∧ W.cell? ⟨w.heap.size + 1 + 1 + 1 + 1 + 1 + 1 + 1 + 1 + 1 + 1 + 1 + 1 + 1 + 1 + 1, 4, none⟩ = some (.pointer (some ⟨w.heap.size + 1 + 1 + 1 + 1 + 1 + 1 + 1 + 1 + 1 + 1 + 1 + 1 + 1 + 1, 0, none⟩)) ∧ W.cell? ⟨w.heap.size + 1 + 1 + 1 + 1 + 1 + 1 + 1 + 1 + 1 + 1 + 1 + 1 + 1 + 1 + 1, 5, none⟩ = some (.pointer none) ∧ W.cell? ⟨w.heap.size + 1 + 1 + 1 + 1 + 1 + 1 + 1 + 1 + 1 + 1 + 1 + 1 + 1 + 1, 0, none⟩ = some (.slice (some ⟨w.heap.size + 1 + 1 + 1 + 1 + 1 + 1 + 1 + 1 + 1 + 1 + 1 + 1 + 1, 0, none⟩) 1 1) ∧ W.cell? ⟨w.heap.size + 1 + 1 + 1 + 1 + 1 + 1 + 1 + 1 + 1 + 1 + 1 + 1 + 1, 0, none⟩ = some (.iface 37 (.pointer (some ⟨w.heap.size + 1 + 1 + 1 + 1 + 1 + 1 + 1 + 1 + 1 + 1 + 1 + 1, 0, none⟩))) ∧ W.cell? ⟨w.heap.size + 1 + 1 + 1 + 1 + 1 + 1 + 1 + 1 + 1 + 1 + 1 + 1, 2, none⟩ = some (.int .u32 a9) ∧ W.cell? ⟨w.heap.size + 1 + 1 + 1 + 1 + 1 + 1 + 1 + 1 + 1 + 1 + 1 + 1, 3, none⟩ = some (.int .u32 a10) ∧ Below w.heap.size w W) ⟨(by repeat (first | (refine Bk.newAt ?_; simp; done) | refine Bk.alloc ?_ _ | refine Bk.drew ?_)), (by simp [go_sem]), (by simp [go_sem]), (by simp [go_sem]), (by simp [go_sem]), (by simp [go_sem]), (by simp [go_sem]), (by simp [go_sem]), (by simp [go_sem]), (by simp [go_sem]), (by go_grown)⟩ ?_
  rintro W ⟨kS, c2, c3, r0, r1, r2, r3, r4, r5, r6, hB⟩
  refine (Stmt_End_Block_true _ _ 1 2 _ _ _ a0 a1 0 0 a9 a10 _ _ false a3 a4 _ kS (by decide) (by omega) (by omega) (by omega) (by omega) (by omega) r0 (fun W1 k => redirChain _ _ _ _ a9 a10 W1 (keepc k r1) (keepc k r2) (keepc k r3) (keepc k r4) (keepc k r5) (keepc k r6)) (fun W1 k => Block_End_any _ a6 a7 W1 (keepc k c2) (keepc k c3) (by omega) (by omega) (by omega) (by omega))).mono ?_
  rintro e w1 ⟨rfl, hb⟩
  have B1 := bmore hB hb
  have s1 := B1.size
  clear hb hB kS c2 c3 r0 r1 r2 r3 r4 r5 r6
  rw [HA.out, if_neg (by decide)]
  go_wp2_with (go_at_call 66; go_in)
  go_ret
  exact ⟨rfl, by go_grown⟩
set_option maxHeartbeats 4000000 in
set_option maxRecDepth 100000 in
theorem noTerm_true_c_r1 (a0 : Int) (a1 : Int) (a3 : Bool) (a4 : Bool) (a6 : Int) (a7 : Int) (a9 : Int) (a10 : Int) (b0 : 0 ≤ a0 ∧ a0 ≤ 4294967295) (b1 : 0 ≤ a1 ∧ a1 ≤ 4294967295) (b6 : 0 ≤ a6 ∧ a6 ≤ 4294967295) (b7 : 0 ≤ a7 ∧ a7 ≤ 4294967295) (_b9 : 0 ≤ a9 ∧ a9 ≤ 4294967295) (_b10 : 0 ≤ a10 ∧ a10 ≤ 4294967295) (w : World) (hV : vld a9 a10 = true) (hL : addO a6 a7 1 < a9) :
    Calls Try.prog 11 #[.int .u32 a0, .int .u32 a1, .bool true, .bool a3, .bool a4, .bool true, .int .u32 a6, .int .u32 a7, .bool true, .int .u32 a9, .int .u32 a10] w fun e w' => e = .returned (.bool true) ∧ Below w.heap.size w w' := by
  have k1 := addO_bd a0 a1 1 (by omega) (by omega)
  have k2 := addL_bd a0 a1 1 (by omega) (by omega)
  have k3 := addO_bd a6 a7 1 (by omega) (by omega)
  have k4 := addL_bd a6 a7 1 (by omega) (by omega)
  have ha : aft a9 a10 (addO a6 a7 1) = true := by simp [aft, hV, hL]
  have HA := Lib.hid ha
  clear ha
  have hL' : decide (addO a6 a7 1 < a9) = true := by simpa using hL
  go_enter Try.func11, Try.ntmps11
  go_wp2_with (first | (go_at_call 66; go_in) | (go_at_call 67; go_in) | (go_at_call 69; refine (n010_11_zzValid_any _ _ _).mono ?_; rintro e w' ⟨rfl, rfl⟩) | (go_at_call 68; refine (n010_11_zzAdd1_any _ _ _ (by omega) (by omega) (by omega) (by omega)).mono ?_; rintro e w' ⟨rfl, rfl⟩))
  refine calls_gen (S := fun W => Bk W (w.heap.size + 1) 72 (stCells (.slice none 0 0) (.iface 107 (.pointer (some ⟨w.heap.size + 1 + 1 + 1, 0, none⟩))) a0 a1 0 0 true false a3 a4 (.slice (some ⟨w.heap.size + 1 + 1 + 1 + 1 + 1 + 1 + 1 + 1 + 1 + 1 + 1 + 1 + 1 + 1 + 1 + 1, 0, none⟩) 2 2)) ∧ W.cell? ⟨w.heap.size + 1 + 1 + 1, 2, none⟩ = some (.int .u32 a6) ∧ W.cell? ⟨w.heap.size + 1 + 1 + 1, 3, none⟩ = some (.int .u32 a7) ∧ W.cell? ⟨w.heap.size + 1 + 1 + 1 + 1 + 1 + 1 + 1 + 1 + 1 + 1 + 1 + 1 + 1 + 1 + 1 + 1, 1, none⟩ = some (.pointer (some ⟨w.heap.size + 1 + 1 + 1 + 1 + 1 + 1 + 1 + 1 + 1 + 1 + 1 + 1 + 1 + 1 + 1, 0, none⟩)) ∧ W.cell? ⟨w.heap.size + 1 + 1 + 1 + 1 + 1 + 1 + 1 + 1 + 1 + 1 + 1 + 1 + 1 + 1 + 1, 4, none⟩ = some (.pointer (some ⟨w.heap.size + 1 + 1 + 1 + 1 + 1 + 1 + 1 + 1 + 1 + 1 + 1 + 1 + 1 + 1, 0, none⟩)) ∧ W.cell? ⟨w.heap.size + 1 + 1 + 1 + 1 + 1 + 1 + 1 + 1 + 1 + 1 + 1 + 1 + 1 + 1 + 1, 5, none⟩ = some (.pointer none) ∧ W.cell? ⟨w.heap.size + 1 + 1 + 1 + 1 + 1 + 1 + 1 + 1 + 1 + 1 + 1 + 1 + 1 + 1, 0, none⟩ = some (.slice (some ⟨w.heap.size + 1 + 1 + 1 + 1 + 1 + 1 + 1 + 1 + 1 + 1 + 1 + 1 + 1, 0, none⟩) 1 1) ∧ W.cell? ⟨w.heap.size + 1 + 1 + 1 + 1 + 1 + 1 + 1 + 1 + 1 + 1 + 1 + 1 + 1, 0, none⟩ = some (.iface 37 (.pointer (some ⟨w.heap.size + 1 + 1 + 1 + 1 + 1 + 1 + 1 + 1 + 1 + 1 + 1 + 1, 0, none⟩))) ∧ W.cell? ⟨w.heap.size + 1 + 1 + 1 + 1 + 1 + 1 + 1 + 1 + 1 + 1 + 1 + 1, 2, none⟩ = some (.int .u32 a9) ∧ W.cell? ⟨w.heap.size + 1 + 1 + 1 + 1 + 1 + 1 + 1 + 1 + 1 + 1 + 1 + 1, 3, none⟩ = some (.int .u32 a10) ∧ Below w.heap.size w W) ⟨(by repeat (first | (refine Bk.newAt ?_; simp; done) | refine Bk.alloc ?_ _ | refine Bk.drew ?_)), (by simp [go_sem]), (by simp [go_sem]), (by simp [go_sem]), (by simp [go_sem]), (by simp [go_sem]), (by simp [go_sem]), (by simp [go_sem]), (by simp [go_sem]), (by simp [go_sem]), (by go_grown)⟩ ?_
  rintro W ⟨kS, c2, c3, r0, r1, r2, r3, r4, r5, r6, hB⟩
  refine (Stmt_End_Block_true _ _ 1 2 _ _ _ a0 a1 0 0 a9 a10 _ _ false a3 a4 _ kS (by decide) (by omega) (by omega) (by omega) (by omega) (by omega) r0 (fun W1 k => redirChain _ _ _ _ a9 a10 W1 (keepc k r1) (keepc k r2) (keepc k r3) (keepc k r4) (keepc k r5) (keepc k r6)) (fun W1 k => Block_End_any _ a6 a7 W1 (keepc k c2) (keepc k c3) (by omega) (by omega) (by omega) (by omega))).mono ?_
  rintro e w1 ⟨rfl, hb⟩
  have B1 := bmore hB hb
  have s1 := B1.size
  clear hb hB kS c2 c3 r0 r1 r2 r3 r4 r5 r6
  rw [HA.out, if_pos rfl]
  go_wp2_with (go_at_call 66; go_in)
  go_ret
  exact ⟨rfl, by go_grown⟩
set_option maxHeartbeats 4000000 in
set_option maxRecDepth 100000 in
theorem noTerm_true_c_r2 (a0 : Int) (a1 : Int) (a3 : Bool) (a4 : Bool) (a6 : Int) (a7 : Int) (a9 : Int) (a10 : Int) (b0 : 0 ≤ a0 ∧ a0 ≤ 4294967295) (b1 : 0 ≤ a1 ∧ a1 ≤ 4294967295) (b6 : 0 ≤ a6 ∧ a6 ≤ 4294967295) (b7 : 0 ≤ a7 ∧ a7 ≤ 4294967295) (_b9 : 0 ≤ a9 ∧ a9 ≤ 4294967295) (_b10 : 0 ≤ a10 ∧ a10 ≤ 4294967295) (w : World) (hV : vld a9 a10 = true) (hL : ¬ addO a6 a7 1 < a9) :
    Calls Try.prog 11 #[.int .u32 a0, .int .u32 a1, .bool true, .bool a3, .bool a4, .bool true, .int .u32 a6, .int .u32 a7, .bool true, .int .u32 a9, .int .u32 a10] w fun e w' => e = .returned (.bool true) ∧ Below w.heap.size w w' := by
  have k1 := addO_bd a0 a1 1 (by omega) (by omega)
  have k2 := addL_bd a0 a1 1 (by omega) (by omega)
  have k3 := addO_bd a6 a7 1 (by omega) (by omega)
  have k4 := addL_bd a6 a7 1 (by omega) (by omega)
  have ha : aft a9 a10 (addO a6 a7 1) = false := by simp [aft, hV]; omega
  have HA := Lib.hid ha
  clear ha
  have hL' : decide (addO a6 a7 1 < a9) = false := by simpa using hL
  go_enter Try.func11, Try.ntmps11
  go_wp2_with (first | (go_at_call 66; go_in) | (go_at_call 67; go_in) | (go_at_call 69; refine (n010_11_zzValid_any _ _ _).mono ?_; rintro e w' ⟨rfl, rfl⟩) | (go_at_call 68; refine (n010_11_zzAdd1_any _ _ _ (by omega) (by omega) (by omega) (by omega)).mono ?_; rintro e w' ⟨rfl, rfl⟩))
  refine calls_gen (S := fun W => Bk W (w.heap.size + 1) 72 (stCells (.slice none 0 0) (.iface 107 (.pointer (some ⟨w.heap.size + 1 + 1 + 1, 0, none⟩))) a0 a1 0 0 true false a3 a4 (.slice (some ⟨w.heap.size + 1 + 1 + 1 + 1 + 1 + 1 + 1 + 1 + 1 + 1 + 1 + 1 + 1 + 1 + 1 + 1, 0, none⟩) 2 2)) ∧ W.cell? ⟨w.heap.size + 1 + 1 + 1, 2, none⟩ = some (.int .u32 a6) ∧ W.cell? ⟨w.heap.size + 1 + 1 + 1, 3, none⟩ = some (.int .u32 a7) ∧ W.cell? ⟨w.heap.size + 1 + 1 + 1 + 1 + 1 + 1 + 1 + 1 + 1 + 1 + 1 + 1 + 1 + 1 + 1 + 1, 1, none⟩ = some (.pointer (some ⟨w.heap.size + 1 + 1 + 1 + 1 + 1 + 1 + 1 + 1 + 1 + 1 + 1 + 1 + 1 + 1 + 1, 0, none⟩)) ∧ W.cell? ⟨w.heap.size + 1 + 1 + 1 + 1 + 1 + 1 + 1 + 1 + 1 + 1 + 1 + 1 + 1 + 1 + 1, 4, none⟩ = some (.pointer (some ⟨w.heap.size + 1 + 1 + 1 + 1 + 1 + 1 + 1 + 1 + 1 + 1 + 1 + 1 + 1 + 1, 0, none⟩)) ∧ W.cell? ⟨w.heap.size + 1 + 1 + 1 + 1 + 1 + 1 + 1 + 1 + 1 + 1 + 1 + 1 + 1 + 1 + 1, 5, none⟩ = some (.pointer none) ∧ W.cell? ⟨w.heap.size + 1 + 1 + 1 + 1 + 1 + 1 + 1 + 1 + 1 + 1 + 1 + 1 + 1 + 1, 0, none⟩ = some (.slice (some ⟨w.heap.size + 1 + 1 + 1 + 1 + 1 + 1 + 1 + 1 + 1 + 1 + 1 + 1 + 1, 0, none⟩) 1 1) ∧ W.cell? ⟨w.heap.size + 1 + 1 + 1 + 1 + 1 + 1 + 1 + 1 + 1 + 1 + 1 + 1 + 1, 0, none⟩ = some (.iface 37 (.pointer (some ⟨w.heap.size + 1 + 1 + 1 + 1 + 1 + 1 + 1 + 1 + 1 + 1 + 1 + 1, 0, none⟩))) ∧ W.cell? ⟨w.heap.size + 1 + 1 + 1 + 1 + 1 + 1 + 1 + 1 + 1 + 1 + 1 + 1, 2, none⟩ = some (.int .u32 a9) ∧ W.cell? ⟨w.heap.size + 1 + 1 + 1 + 1 + 1 + 1 + 1 + 1 + 1 + 1 + 1 + 1, 3, none⟩ = some (.int .u32 a10) ∧ Below w.heap.size w W) ⟨(by repeat (first | (refine Bk.newAt ?_; simp; done) | refine Bk.alloc ?_ _ | refine Bk.drew ?_)), (by simp [go_sem]), (by simp [go_sem]), (by simp [go_sem]), (by simp [go_sem]), (by simp [go_sem]), (by simp [go_sem]), (by simp [go_sem]), (by simp [go_sem]), (by simp [go_sem]), (by go_grown)⟩ ?_
  rintro W ⟨kS, c2, c3, r0, r1, r2, r3, r4, r5, r6, hB⟩
  refine (Stmt_End_Block_true _ _ 1 2 _ _ _ a0 a1 0 0 a9 a10 _ _ false a3 a4 _ kS (by decide) (by omega) (by omega) (by omega) (by omega) (by omega) r0 (fun W1 k => redirChain _ _ _ _ a9 a10 W1 (keepc k r1) (keepc k r2) (keepc k r3) (keepc k r4) (keepc k r5) (keepc k r6)) (fun W1 k => Block_End_any _ a6 a7 W1 (keepc k c2) (keepc k c3) (by omega) (by omega) (by omega) (by omega))).mono ?_
  rintro e w1 ⟨rfl, hb⟩
  have B1 := bmore hB hb
  have s1 := B1.size
  clear hb hB kS c2 c3 r0 r1 r2 r3 r4 r5 r6
  rw [HA.out, if_neg (by decide)]
  go_wp2_with (go_at_call 66; go_in)
  go_ret
  exact ⟨rfl, by go_grown⟩
theorem walkFnStmtEndWithoutTerminator (a0 : Int) (a1 : Int) (a2 : Bool) (a3 : Bool) (a4 : Bool) (a5 : Bool) (a6 : Int) (a7 : Int) (a8 : Bool) (a9 : Int) (a10 : Int) (w0 : (Lit.int .u32 a0).wf = true) (w1 : (Lit.int .u32 a1).wf = true) (w6 : (Lit.int .u32 a6).wf = true) (w7 : (Lit.int .u32 a7).wf = true) (w9 : (Lit.int .u32 a9).wf = true) (w10 : (Lit.int .u32 a10).wf = true) (w : World) :
    Calls Try.prog 11 #[.int .u32 a0, .int .u32 a1, .bool a2, .bool a3, .bool a4, .bool a5, .int .u32 a6, .int .u32 a7, .bool a8, .int .u32 a9, .int .u32 a10] w fun e w' => e = .returned (.bool true) ∧ Below w.heap.size w w' := by
  have b0 := bounds_u32 w0
  have b1 := bounds_u32 w1
  have b6 := bounds_u32 w6
  have b7 := bounds_u32 w7
  have b9 := bounds_u32 w9
  have b10 := bounds_u32 w10
  cases a2 <;> cases a5 <;> cases a8
  · exact noTerm_false_n_z a0 a1 a3 a4 a6 a7 a9 a10 b0 b1 b6 b7 b9 b10 w
  · cases hV : vld a9 a10 with
    | false => exact noTerm_false_n_r0 a0 a1 a3 a4 a6 a7 a9 a10 b0 b1 b6 b7 b9 b10 w hV
    | true =>
      by_cases hL : a0 < a9
      · exact noTerm_false_n_r1 a0 a1 a3 a4 a6 a7 a9 a10 b0 b1 b6 b7 b9 b10 w hV hL
      · exact noTerm_false_n_r2 a0 a1 a3 a4 a6 a7 a9 a10 b0 b1 b6 b7 b9 b10 w hV hL
  · exact noTerm_false_c_z a0 a1 a3 a4 a6 a7 a9 a10 b0 b1 b6 b7 b9 b10 w
  · cases hV : vld a9 a10 with
    | false => exact noTerm_false_c_r0 a0 a1 a3 a4 a6 a7 a9 a10 b0 b1 b6 b7 b9 b10 w hV
    | true =>
      by_cases hL : addO a6 a7 1 < a9
      · exact noTerm_false_c_r1 a0 a1 a3 a4 a6 a7 a9 a10 b0 b1 b6 b7 b9 b10 w hV hL
      · exact noTerm_false_c_r2 a0 a1 a3 a4 a6 a7 a9 a10 b0 b1 b6 b7 b9 b10 w hV hL
  · exact noTerm_true_n_z a0 a1 a3 a4 a6 a7 a9 a10 b0 b1 b6 b7 b9 b10 w
  · cases hV : vld a9 a10 with
    | false => exact noTerm_true_n_r0 a0 a1 a3 a4 a6 a7 a9 a10 b0 b1 b6 b7 b9 b10 w hV
    | true =>
      by_cases hL : addO a0 a1 1 < a9
      · exact noTerm_true_n_r1 a0 a1 a3 a4 a6 a7 a9 a10 b0 b1 b6 b7 b9 b10 w hV hL
      · exact noTerm_true_n_r2 a0 a1 a3 a4 a6 a7 a9 a10 b0 b1 b6 b7 b9 b10 w hV hL
  · exact noTerm_true_c_z a0 a1 a3 a4 a6 a7 a9 a10 b0 b1 b6 b7 b9 b10 w
  · cases hV : vld a9 a10 with
    | false => exact noTerm_true_c_r0 a0 a1 a3 a4 a6 a7 a9 a10 b0 b1 b6 b7 b9 b10 w hV
    | true =>
      by_cases hL : addO a6 a7 1 < a9
      · exact noTerm_true_c_r1 a0 a1 a3 a4 a6 a7 a9 a10 b0 b1 b6 b7 b9 b10 w hV hL
      · exact noTerm_true_c_r2 a0 a1 a3 a4 a6 a7 a9 a10 b0 b1 b6 b7 b9 b10 w hV hL
end Go.Proofs.Ytaampofbcbophaa
