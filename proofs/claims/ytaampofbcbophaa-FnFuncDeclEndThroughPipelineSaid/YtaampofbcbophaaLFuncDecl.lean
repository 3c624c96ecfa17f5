/- The walk of FnFuncDeclEndThroughPipeline. -/
import Derived.Test.YtaampofbcbophaaFunc
import Derived.OpenShut
import Derived.Deep.RegionHeld3
namespace Go.Proofs.Ytaampofbcbophaa
open Go.RowKit
def rO (o : Int) : Bool := decide (o ≤ 4294967284) || (o == 4294967285)
theorem n010_143_zzReach_any (o : Int) (w : World) :
    Calls Try.prog 36 #[.int .u32 o] w fun e w' => e = .returned (.bool (rO o)) ∧ w = w' := by
  by_cases h1 : o ≤ 4294967284
  · have e1 : rO o = true := by simp [rO, h1]
    rw [e1]; clear e1
    go_enter Try.func36, Try.ntmps36
    go_wp2
    go_ret
    exact ⟨rfl, rfl⟩
  · have h1' : decide (o ≤ 4294967284) = false := by simpa using h1
    have e1 : rO o = (o == 4294967285) := by simp [rO, h1]
    rw [e1]; clear e1
    go_enter Try.func36, Try.ntmps36
    go_wp2
    go_ret
    exact ⟨rfl, rfl⟩
theorem mkPos143_eq (o lc : Int) (w : World) :
    Calls Try.prog 37 #[.int .u32 o, .int .u32 lc] w fun e w' => e = .returned (P2 o lc) ∧ w.alloc (.cells #[.int .u32 o, .int .u32 lc] 24) = w' := by
  go_enter Try.func37, Try.ntmps37
  go_wp2
  go_returns
  exact ⟨rfl, rfl⟩
theorem stmtBin143_eq (o lc : Int) (n : Bool) (q : Option Addr) (w : World) :
    Calls Try.prog 38 #[P2 o lc, .bool n, .pointer q] w fun e w' => e = .returned (.pointer (some ⟨w.heap.size + 1, 0, none⟩)) ∧ (w.alloc (.cells #[.int .u32 o, .int .u32 lc] 24)).alloc (.cells (stCells (.slice none 0 0) (.iface 73 (.pointer q)) o lc 0 0 n false false false (.slice none 0 0)) 72) = w' := by
  go_enter Try.func38, Try.ntmps38
  go_wp2
  go_ret
  exact ⟨rfl, rfl⟩
theorem binEnd143 (bb bX bY : Nat) (a5 a6 a7 a8 : Int) (a9 a10 a11 : Bool) (W : World) (kB : Bk W bb 76 #[.int .u32 0, .int .u32 0, .int .u32 12, .pointer (some ⟨bX, 0, none⟩), .pointer (some ⟨bY, 0, none⟩)]) (kY : Bk W bY 72 (stCells (.slice none 0 0) .nilIface a5 a6 a7 a8 a9 false a10 a11 (.slice none 0 0)))
    (b5 : 0 ≤ a5 ∧ a5 ≤ 4294967295) (b6 : 0 ≤ a6 ∧ a6 ≤ 4294967295) (b7 : 0 ≤ a7 ∧ a7 ≤ 4294967295) (b8 : 0 ≤ a8 ∧ a8 ≤ 4294967295) :
    Calls Try.prog 42 #[.pointer (some ⟨bb, 0, none⟩)] W fun e w' => e = .returned (P2 (mdO a5 a6 a7 a8 a9 a10 a11) (mdL a5 a6 a7 a8 a9 a10 a11)) ∧ Below W.heap.size W w' :=
  BinaryCmd_End_any bb bY _ _ W (by rw [kB.cells]; rfl) fun W1 h1 => Stmt_End_model bY _ a5 a6 a7 a8 a9 false a10 a11 W1 (kY.keep h1) (by omega) (by omega) (by omega) (by omega) (by omega) (by omega) (by omega) (by omega)
theorem bodyEnd143 (bs bb bX bY : Nat) (a3 a4 a5 a6 a7 a8 : Int) (a2 a9 a10 a11 : Bool) (W : World) (kS : Bk W bs 72 (stCells (.slice none 0 0) (.iface 73 (.pointer (some ⟨bb, 0, none⟩))) a3 a4 0 0 a2 false false false (.slice none 0 0))) (kB : Bk W bb 76 #[.int .u32 0, .int .u32 0, .int .u32 12, .pointer (some ⟨bX, 0, none⟩), .pointer (some ⟨bY, 0, none⟩)]) (kY : Bk W bY 72 (stCells (.slice none 0 0) .nilIface a5 a6 a7 a8 a9 false a10 a11 (.slice none 0 0)))
    (b3 : 0 ≤ a3 ∧ a3 ≤ 4294967295) (b4 : 0 ≤ a4 ∧ a4 ≤ 4294967295) (b5 : 0 ≤ a5 ∧ a5 ≤ 4294967295) (b6 : 0 ≤ a6 ∧ a6 ≤ 4294967295) (b7 : 0 ≤ a7 ∧ a7 ≤ 4294967295) (b8 : 0 ≤ a8 ∧ a8 ≤ 4294967295) :
    Calls Try.prog 70 #[.pointer (some ⟨bs, 0, none⟩)] W fun e w' => e = .returned (P2 (mdO a5 a6 a7 a8 a9 a10 a11) (mdL a5 a6 a7 a8 a9 a10 a11)) ∧ Below W.heap.size W w' :=
  Stmt_End_BinaryCmd bs bb _ a3 a4 0 0 _ _ a2 false false false W kS (by decide) (by omega) (by omega) (by omega) (by omega) fun W1 h1 => binEnd143 bb bX bY a5 a6 a7 a8 a9 a10 a11 W1 (kB.keep h1) (kY.keep h1) b5 b6 b7 b8
set_option maxHeartbeats 4000000 in
set_option maxRecDepth 100000 in
theorem walkFnFuncDeclEndThroughPipeline (a0 : Int) (a1 : Int) (a2 : Bool) (a3 : Int) (a4 : Int) (a5 : Int) (a6 : Int) (a7 : Int) (a8 : Int) (a9 : Bool) (a10 : Bool) (a11 : Bool) (w0 : (Lit.int .u32 a0).wf = true) (w1 : (Lit.int .u32 a1).wf = true) (w3 : (Lit.int .u32 a3).wf = true) (w4 : (Lit.int .u32 a4).wf = true) (w5 : (Lit.int .u32 a5).wf = true) (w6 : (Lit.int .u32 a6).wf = true) (w7 : (Lit.int .u32 a7).wf = true) (w8 : (Lit.int .u32 a8).wf = true) (w : World) :
    Calls Try.prog 7 #[.int .u32 a0, .int .u32 a1, .bool a2, .int .u32 a3, .int .u32 a4, .int .u32 a5, .int .u32 a6, .int .u32 a7, .int .u32 a8, .bool a9, .bool a10, .bool a11] w fun e w' => e = .returned (.bool true) ∧ Below w.heap.size w w' := by
  have b0 := bounds_u32 w0
  have b1 := bounds_u32 w1
  have b3 := bounds_u32 w3
  have b4 := bounds_u32 w4
  have b5 := bounds_u32 w5
  have b6 := bounds_u32 w6
  have b7 := bounds_u32 w7
  have b8 := bounds_u32 w8
  clear w0 w1 w3 w4 w5 w6 w7 w8
  cases h0 : rO a0 with
  | false =>
    go_enter Try.func7, Try.ntmps7
    go_wp2_with (go_at_call 36; refine (n010_143_zzReach_any _ _).mono ?_; rintro e w' ⟨rfl, rfl⟩)
    go_ret
    exact ⟨rfl, Below.refl _ _⟩
  | true =>
  cases h3 : rO a3 with
  | false =>
    go_enter Try.func7, Try.ntmps7
    go_wp2_with (go_at_call 36; refine (n010_143_zzReach_any _ _).mono ?_; rintro e w' ⟨rfl, rfl⟩)
    go_ret
    exact ⟨rfl, Below.refl _ _⟩
  | true =>
  cases h5 : rO a5 with
  | false =>
    go_enter Try.func7, Try.ntmps7
    go_wp2_with (go_at_call 36; refine (n010_143_zzReach_any _ _).mono ?_; rintro e w' ⟨rfl, rfl⟩)
    go_ret
    exact ⟨rfl, Below.refl _ _⟩
  | true =>
  cases h7 : rO a7 with
  | false =>
    go_enter Try.func7, Try.ntmps7
    go_wp2_with (go_at_call 36; refine (n010_143_zzReach_any _ _).mono ?_; rintro e w' ⟨rfl, rfl⟩)
    go_ret
    exact ⟨rfl, Below.refl _ _⟩
  | true =>
  go_enter Try.func7, Try.ntmps7
  go_wp2_with (first | (go_at_call 36; refine (n010_143_zzReach_any _ _).mono ?_; rintro e w' ⟨rfl, rfl⟩) | (go_at_call 37; refine (mkPos143_eq _ _ _).mono ?_; rintro e w' ⟨rfl, rfl⟩))
  go_region_held3 (fun W => W.cell? ⟨w.heap.size + 1, 0, none⟩ = some (.int .u32 a3) ∧ W.cell? ⟨w.heap.size + 1, 1, none⟩ = some (.int .u32 a4)) (first | (simp [go_sem]; done) | go_keep) (first | (go_at_call 37; refine (mkPos143_eq _ _ _).mono ?_; rintro e w' ⟨rfl, rfl⟩) | (go_at_call 38; refine (stmtBin143_eq _ _ _ _ _).mono ?_; rintro e w' ⟨rfl, rfl⟩))
  all_goals go_wp2_with fail
  refine calls_gen (S := fun W => Bk W (w.heap.size + 1 + 1 + 1 + 1 + 1 + 1 + 1 + 1 + 1 + 1) 81 #[.int .u32 a0, .int .u32 a1, .bool false, .bool true, .pointer none, .slice none 0 0, .pointer (some ⟨w.heap.size + 1 + 1 + 1 + 1 + 1 + 1 + 1 + 1 + 1, 0, none⟩)] ∧ Bk W (w.heap.size + 1 + 1 + 1 + 1 + 1 + 1 + 1 + 1 + 1) 72 (stCells (.slice none 0 0) (.iface 73 (.pointer (some ⟨w.heap.size + 1 + 1 + 1 + 1 + 1 + 1, 0, none⟩))) a3 a4 0 0 a2 false false false (.slice none 0 0)) ∧ Bk W (w.heap.size + 1 + 1 + 1 + 1 + 1 + 1) 76 #[.int .u32 0, .int .u32 0, .int .u32 12, .pointer (some ⟨w.heap.size + 1 + 1, 0, none⟩), .pointer (some ⟨w.heap.size + 1 + 1 + 1 + 1 + 1, 0, none⟩)] ∧ Bk W (w.heap.size + 1 + 1 + 1 + 1 + 1) 72 (stCells (.slice none 0 0) .nilIface a5 a6 a7 a8 a9 false a10 a11 (.slice none 0 0)) ∧ Below w.heap.size w W) ⟨?_, ?_, ?_, ?_, ?_⟩ ?_
  · repeat (first | (refine Bk.newAt ?_; simp; done) | refine Bk.alloc ?_ _ | refine Bk.drew ?_)
  · repeat (first | (refine Bk.newAt ?_; simp; done) | refine Bk.alloc ?_ _ | refine Bk.drew ?_)
  · repeat (first | (refine Bk.newAt ?_; simp; done) | refine Bk.alloc ?_ _ | refine Bk.drew ?_)
  · repeat (first | (refine Bk.newAt ?_; simp; done) | refine Bk.alloc ?_ _ | refine Bk.drew ?_)
  · go_grown
  rintro W ⟨kF, kS, kB, kY, hBW⟩
  refine (FuncDecl_End_any _ (w.heap.size + 1 + 1 + 1 + 1 + 1 + 1 + 1 + 1 + 1) (mdO a5 a6 a7 a8 a9 a10 a11) (mdL a5 a6 a7 a8 a9 a10 a11) _ (by rw [kF.cells]; rfl) (fun W1 h1 => bodyEnd143 _ _ _ _ a3 a4 a5 a6 a7 a8 a2 a9 a10 a11 W1 (kS.keep h1) (kB.keep h1) (kY.keep h1) b3 b4 b5 b6 b7 b8)).mono ?_
  rintro e w1 ⟨rfl, hb⟩
  have kF1 := kF.keep hb
  have kB1 := kB.keep hb
  have kY1 := kY.keep hb
  have B1 := bmore hBW hb
  clear hb kF kS kB kY hBW
  go_wp2_with fail
  refine (ZZposRaw_n010_143_any _ _ _).mono ?_
  rintro e w2 ⟨rfl, hb⟩
  have kF2 := kF1.keep hb
  have kB2 := kB1.keep hb
  have kY2 := kY1.keep hb
  have B2 := bmore B1 hb
  clear hb kF1 kB1 kY1 B1
  go_wp2_with fail
  refine (zzModelStmtEnd_any _ _ _ _ _ _ _ _ (by omega) (by omega) (by omega) (by omega) (by omega) (by omega) (by omega) (by omega)).mono ?_
  rintro e w' ⟨rfl, rfl⟩
  go_wp2_with fail
  refine (binEnd143 _ _ _ a5 a6 a7 a8 a9 a10 a11 _ kB2 kY2 b5 b6 b7 b8).mono ?_
  rintro e w3 ⟨rfl, hb⟩
  have kF3 := kF2.keep hb
  have B3 := bmore B2 hb
  clear hb kF2 kB2 kY2 B2
  go_wp2_with fail
  refine (ZZposRaw_n010_143_any _ _ _).mono ?_
  rintro e w4 ⟨rfl, hb⟩
  have kF4 := kF3.keep hb
  have B4 := bmore B3 hb
  clear hb kF3 B3
  go_wp2_with fail
  refine (FuncDecl_Pos_any _ a0 a1 _ (by rw [kF4.cells]; rfl) (by rw [kF4.cells]; rfl)).mono ?_
  rintro e w5 ⟨rfl, hb⟩
  have B5 := bmore B4 hb
  clear hb kF4 B4
  go_wp2_with fail
  refine (ZZposRaw_n010_143_any _ _ _).mono ?_
  rintro e w6 ⟨rfl, hb⟩
  have B6 := bmore B5 hb
  clear hb B5
  go_wp2
  go_ret
  exact ⟨rfl, B6⟩
end Go.Proofs.Ytaampofbcbophaa
