/- Contracts of BinaryCmd.End, FuncDecl.End; the model of n010_143. -/
import Derived.Test.YtaampofbcbophaaStmt
import Derived.Test.YtaampofbcbophaaValid
namespace Go.Proofs.Ytaampofbcbophaa
open Go.RowKit
theorem tup2 {a b c d : Int} (h1 : a = c) (h2 : b = d) : Ending.returned (.tuple #[.int .u32 a, .int .u32 b]) = .returned (.tuple #[.int .u32 c, .int .u32 d]) := by rw [h1, h2]
theorem BinaryCmd_End_any (b bY : Nat) (co cl : Int) (w : World) (hB : w.cell? ⟨b, 4, none⟩ = some (.pointer (some ⟨bY, 0, none⟩)))
    (hend : ∀ W, Below w.heap.size w W → Calls Try.prog 70 #[.pointer (some ⟨bY, 0, none⟩)] W fun e w' => e = .returned (P2 co cl) ∧ Below W.heap.size W w') :
    Calls Try.prog 42 #[.pointer (some ⟨b, 0, none⟩)] w fun e w' => e = .returned (P2 co cl) ∧ Below w.heap.size w w' := by
  have hlt : b < w.heap.size := World.block_lt_of_cell? _ _ hB
  have HE := Lib.hid hend
  clear hend
  go_enter Try.func42, Try.ntmps42
  go_wp2_with (go_at_call 70; refine (HE.out _ (by go_grown)).mono ?_; rintro e w1 ⟨rfl, hb⟩; obtain ⟨hc, hf, hz, hB, hs⟩ := bcell (w := w) (by go_grown) hb; clear hb)
  refine bodyPost_ret (v := P2 co cl) (by simp [results, Try.results42, go_sem, hc]) rfl ⟨rfl, ?_⟩
  go_grown
theorem FuncDecl_End_any (b bY : Nat) (co cl : Int) (w : World) (hB : w.cell? ⟨b, 6, none⟩ = some (.pointer (some ⟨bY, 0, none⟩)))
    (hend : ∀ W, Below w.heap.size w W → Calls Try.prog 70 #[.pointer (some ⟨bY, 0, none⟩)] W fun e w' => e = .returned (P2 co cl) ∧ Below W.heap.size W w') :
    Calls Try.prog 40 #[.pointer (some ⟨b, 0, none⟩)] w fun e w' => e = .returned (P2 co cl) ∧ Below w.heap.size w w' := by
  have hlt : b < w.heap.size := World.block_lt_of_cell? _ _ hB
  have HE := Lib.hid hend
  clear hend
  go_enter Try.func40, Try.ntmps40
  go_wp2_with (go_at_call 70; refine (HE.out _ (by go_grown)).mono ?_; rintro e w1 ⟨rfl, hb⟩; obtain ⟨hc, hf, hz, hB, hs⟩ := bcell (w := w) (by go_grown) hb; clear hb)
  refine bodyPost_ret (v := P2 co cl) (by simp [results, Try.results40, go_sem, hc]) rfl ⟨rfl, ?_⟩
  go_grown
theorem n010_143_zzAdd1_any (o lc : Int) (w : World) (o0 : 0 ≤ o) (o1 : o < 4294967296) (l0 : 0 ≤ lc) (l1 : lc < 4294967296) :
    Calls Try.prog 85 #[.int .u32 o, .int .u32 lc] w fun e w' => e = .returned (.tuple #[.int .u32 (addO o lc 1), .int .u32 (addL o lc 1)]) ∧ w = w' := by
  cases hv : vld o lc with
  | false =>
    have e1 : addO o lc 1 = o := by simp [addO, hv]
    have e2 : addL o lc 1 = lc := by simp [addL, hv]
    rw [e1, e2]
    clear e1 e2
    go_enter Try.func85, Try.ntmps85
    go_wp2_with (go_at_call 84; refine (n010_143_zzValid_any _ _ _).mono ?_; rintro e w' ⟨rfl, rfl⟩)
    go_ret2
    exact ⟨rfl, rfl⟩
  | true =>
    have hm := vld_true hv
    have ea := and_col lc l0 l1
    have en := andNot_col lc l0 l1
    have e1 : addO o lc 1 = min (max (o + 1) 0) 4294967284 := by simp [addO, hv]
    have e2 : addL o lc 1 = lc - lc % 16384 + addC lc 1 := by simp [addL, hv]
    rw [e1, e2]
    clear e1 e2
    by_cases hc : lc % 16384 = 0
    · have e3 : addC lc 1 = 0 := by unfold addC; rw [if_neg (by omega)]
      have hc' : (lc % 16384 != 0) = false := by simpa using hc
      have eo := or_col (lc - lc % 16384) (lc % 16384) (by omega) (by omega) (by omega) (by omega) (by omega)
      rw [e3]
      clear e3
      have HC := Lib.hid hc
      clear hc
      go_enter Try.func85, Try.ntmps85
      go_wp2_with (go_at_call 84; refine (n010_143_zzValid_any _ _ _).mono ?_; rintro e w' ⟨rfl, rfl⟩)
      all_goals (go_ret2; have hc := HC.out; exact ⟨tup2 (by omega) (by omega), rfl⟩)
    · have hc' : (lc % 16384 != 0) = true := by simpa using hc
      by_cases hd : lc % 16384 = 16383
      · have e3 : addC lc 1 = 0 := by unfold addC; rw [if_pos (by omega), if_pos (by omega)]
        have hd' : (lc % 16384 == 16383) = true := by simpa using hd
        have eo := or_col (lc - lc % 16384) 0 (by omega) (by omega) (by omega) (by omega) (by omega)
        rw [e3]
        clear e3 hc hd
        go_enter Try.func85, Try.ntmps85
        go_wp2_with (go_at_call 84; refine (n010_143_zzValid_any _ _ _).mono ?_; rintro e w' ⟨rfl, rfl⟩)
        all_goals (go_ret2; exact ⟨tup2 (by omega) (by omega), rfl⟩)
      · have e3 : addC lc 1 = lc % 16384 + 1 := by unfold addC; rw [if_pos (by omega), if_neg (by omega)]
        have hd' : (lc % 16384 == 16383) = false := by simpa using hd
        have eo := or_col (lc - lc % 16384) (lc % 16384 + 1) (by omega) (by omega) (by omega) (by omega) (by omega)
        rw [e3]
        clear e3 hc hd
        go_enter Try.func85, Try.ntmps85
        go_wp2_with (go_at_call 84; refine (n010_143_zzValid_any _ _ _).mono ?_; rintro e w' ⟨rfl, rfl⟩)
        all_goals (go_ret2; exact ⟨tup2 (by omega) (by omega), rfl⟩)
def mdO (po pl so sl : Int) (neg cop dis : Bool) : Int := if vld so sl then (if cop || dis then addO (addO so sl 1) (addL so sl 1) 1 else addO so sl 1) else if neg then addO po pl 1 else po
def mdL (po pl so sl : Int) (neg cop dis : Bool) : Int := if vld so sl then (if cop || dis then addL (addO so sl 1) (addL so sl 1) 1 else addL so sl 1) else if neg then addL po pl 1 else pl
theorem zzModelStmtEnd_any (po pl so sl : Int) (neg cop dis : Bool) (w : World) (p0 : 0 ≤ po) (p1 : po < 4294967296) (q0 : 0 ≤ pl) (q1 : pl < 4294967296) (o0 : 0 ≤ so) (o1 : so < 4294967296) (l0 : 0 ≤ sl) (l1 : sl < 4294967296) :
    Calls Try.prog 41 #[.int .u32 po, .int .u32 pl, .int .u32 so, .int .u32 sl, .bool neg, .bool cop, .bool dis] w fun e w' => e = .returned (.tuple #[.int .u32 (mdO po pl so sl neg cop dis), .int .u32 (mdL po pl so sl neg cop dis)]) ∧ w = w' := by
  have k1 := addO_bd so sl 1 o0 o1
  have k2 := addL_bd so sl 1 l0 l1
  cases hv : vld so sl with
  | false =>
    cases neg with
    | false =>
      have e1 : mdO po pl so sl false cop dis = po := by simp [mdO, hv]
      have e2 : mdL po pl so sl false cop dis = pl := by simp [mdL, hv]
      rw [e1, e2]
      clear e1 e2
      go_enter Try.func41, Try.ntmps41
      go_wp2_with (go_at_call 84; refine (n010_143_zzValid_any _ _ _).mono ?_; rintro e w' ⟨rfl, rfl⟩)
      go_ret2
      exact ⟨rfl, rfl⟩
    | true =>
      have e1 : mdO po pl so sl true cop dis = addO po pl 1 := by simp [mdO, hv]
      have e2 : mdL po pl so sl true cop dis = addL po pl 1 := by simp [mdL, hv]
      rw [e1, e2]
      clear e1 e2
      go_enter Try.func41, Try.ntmps41
      go_wp2_with (first | (go_at_call 84; refine (n010_143_zzValid_any _ _ _).mono ?_; rintro e w' ⟨rfl, rfl⟩) | (go_at_call 85; refine (n010_143_zzAdd1_any _ _ _ (by omega) (by omega) (by omega) (by omega)).mono ?_; rintro e w' ⟨rfl, rfl⟩))
      go_ret2
      exact ⟨rfl, rfl⟩
  | true =>
    cases hcd : (cop || dis) with
    | false =>
      have e1 : mdO po pl so sl neg cop dis = addO so sl 1 := by simp [mdO, hv, hcd]
      have e2 : mdL po pl so sl neg cop dis = addL so sl 1 := by simp [mdL, hv, hcd]
      rw [e1, e2]
      clear e1 e2
      obtain ⟨rfl, rfl⟩ : cop = false ∧ dis = false := by simpa using hcd
      clear hcd
      go_enter Try.func41, Try.ntmps41
      go_wp2_with (first | (go_at_call 84; refine (n010_143_zzValid_any _ _ _).mono ?_; rintro e w' ⟨rfl, rfl⟩) | (go_at_call 85; refine (n010_143_zzAdd1_any _ _ _ (by omega) (by omega) (by omega) (by omega)).mono ?_; rintro e w' ⟨rfl, rfl⟩))
      go_ret2
      exact ⟨rfl, rfl⟩
    | true =>
      have e1 : mdO po pl so sl neg cop dis = addO (addO so sl 1) (addL so sl 1) 1 := by simp [mdO, hv, hcd]
      have e2 : mdL po pl so sl neg cop dis = addL (addO so sl 1) (addL so sl 1) 1 := by simp [mdL, hv, hcd]
      rw [e1, e2]
      clear e1 e2
      have hcd' : cop = true ∨ (cop = false ∧ dis = true) := by cases cop <;> cases dis <;> simp_all
      clear hcd
      rcases hcd' with rfl | ⟨rfl, rfl⟩
      all_goals
        go_enter Try.func41, Try.ntmps41
        go_wp2_with (first | (go_at_call 84; refine (n010_143_zzValid_any _ _ _).mono ?_; rintro e w' ⟨rfl, rfl⟩) | (go_at_call 85; refine (n010_143_zzAdd1_any _ _ _ (by omega) (by omega) (by omega) (by omega)).mono ?_; rintro e w' ⟨rfl, rfl⟩))
        go_ret2
        exact ⟨rfl, rfl⟩
/-- A bare statement's End is the model's. -/
theorem Stmt_End_model (b : Nat) (cm : Value) (po pl so sl : Int) (neg bg cop dis : Bool) (w : World)
    (hB : Bk w b 72 (stCells cm .nilIface po pl so sl neg bg cop dis (.slice none 0 0))) (p0 : 0 ≤ po) (p1 : po < 4294967296) (q0 : 0 ≤ pl) (q1 : pl < 4294967296) (o0 : 0 ≤ so) (o1 : so < 4294967296) (l0 : 0 ≤ sl) (l1 : sl < 4294967296) :
    Calls Try.prog 70 #[.pointer (some ⟨b, 0, none⟩)] w fun e w' => e = .returned (P2 (mdO po pl so sl neg cop dis) (mdL po pl so sl neg cop dis)) ∧ Below w.heap.size w w' := by
  cases hv : vld so sl with
  | false =>
    have e1 : P2 (mdO po pl so sl neg cop dis) (mdL po pl so sl neg cop dis) = if neg then P2 (addO po pl 1) (addL po pl 1) else P2 po pl := by cases neg <;> simp [mdO, mdL, hv]
    rw [e1]
    exact Stmt_End_bare b cm po pl so sl neg bg cop dis w hB hv p0 p1 q0 q1
  | true =>
    cases hcd : (cop || dis) with
    | false =>
      have e1 : mdO po pl so sl neg cop dis = addO so sl 1 := by simp [mdO, hv, hcd]
      have e2 : mdL po pl so sl neg cop dis = addL so sl 1 := by simp [mdL, hv, hcd]
      rw [e1, e2]
      obtain ⟨rfl, rfl⟩ : cop = false ∧ dis = false := by simpa using hcd
      exact Stmt_End_sem1 b cm _ po pl so sl neg bg _ w hB hv o0 o1 l0 l1
    | true =>
      have e1 : mdO po pl so sl neg cop dis = addO (addO so sl 1) (addL so sl 1) 1 := by simp [mdO, hv, hcd]
      have e2 : mdL po pl so sl neg cop dis = addL (addO so sl 1) (addL so sl 1) 1 := by simp [mdL, hv, hcd]
      rw [e1, e2]
      exact Stmt_End_sem2 b cm _ po pl so sl neg bg cop dis _ w hB hcd hv o0 o1 l0 l1
end Go.Proofs.Ytaampofbcbophaa
