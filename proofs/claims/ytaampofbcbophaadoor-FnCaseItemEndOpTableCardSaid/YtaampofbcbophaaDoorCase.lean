/- The walk of FnCaseItemEndOpTable: CaseItem.End over the operators' names, and the law's model. -/
import Derived.Test.YtaampofbcbophaaDoorTokA
import Derived.Test.YtaampofbcbophaaDoorBlk
import Derived.StillTailTactics
import Derived.Deep.RegionWith
namespace Go.Proofs.YtaampofbcbophaaDoor
open Go.RowKit
def StrLen (n : Nat) (w : World) (e : Ending) (w' : World) : Prop := ∃ s : ByteArray, e = .returned (.string s) ∧ s.size = n ∧ Below w.heap.size w w'
theorem caseOp_String (i n : Nat) (h : i < 144) (hn : (tokText i).length = n) (w : World) (ht : TokIs w) :
    Calls Tryd.prog 14 #[.int .u32 (i : Int)] w (StrLen n w) := by
  have HT := Lib.hid ht
  have HN := Lib.hid hn
  clear ht hn
  go_enter Tryd.func14, Tryd.ntmps14
  go_wp2_with (go_at_call 17; refine (token_small i h _ HT.out).mono ?_; rintro e w1 ⟨rfl, hb⟩)
  go_ret
  exact ⟨_, rfl, by rw [← HN.out]; simp [ByteArray.size], hb⟩
theorem stmtsEnd_nn (w : World) :
    Calls Tryd.prog 15 #[.slice none 0 0, .slice none 0 0] w fun e w' => e = .returned (P2 0 0) ∧ Below w.heap.size w w' := by
  go_enter Tryd.func15, Tryd.ntmps15
  go_wp2
  go_returns
  exact ⟨rfl, by go_grown⟩
def SomeB (w : World) (e : Ending) (w' : World) : Prop := ∃ b : Bool, e = .returned (.bool b) ∧ w = w'
theorem zzReachable108_any (o lc : Int) (w : World) :
    Calls Tryd.prog 4 #[.int .u32 o, .int .u32 lc] w (SomeB w) := by
  by_cases h1 : o ≤ 4294967284
  · go_enter Tryd.func4, Tryd.ntmps4
    go_wp2
    go_ret
    exact ⟨_, rfl, rfl⟩
  · have h1' : decide (o ≤ 4294967284) = false := by simpa using h1
    by_cases h2 : o = 4294967285
    · subst h2
      go_enter Tryd.func4, Tryd.ntmps4
      go_wp2
      go_ret
      exact ⟨_, rfl, rfl⟩
    · have h2' : (o == 4294967285) = false := by simpa using h2
      go_enter Tryd.func4, Tryd.ntmps4
      go_wp2
      go_ret
      exact ⟨_, rfl, rfl⟩
theorem zzValid108_any (o lc : Int) (w : World) :
    Calls Tryd.prog 9 #[.int .u32 o, .int .u32 lc] w fun e w' => e = .returned (.bool (vld o lc)) ∧ w = w' := by
  by_cases h1 : o ≤ 4294967284
  · by_cases h2 : lc = 0
    · have e1 : vld o lc = false := vld_no (.inr h2)
      rw [e1]; clear e1
      subst h2
      have h1' : decide (o ≤ 4294967284) = true := by simpa using h1
      go_enter Tryd.func9, Tryd.ntmps9
      go_wp2
      go_ret
      exact ⟨rfl, rfl⟩
    · have e1 : vld o lc = true := vld_mk h1 h2
      have h2' : (lc != 0) = true := by simpa using h2
      rw [e1]; clear e1 h2
      have h1' : decide (o ≤ 4294967284) = true := by simpa using h1
      go_enter Tryd.func9, Tryd.ntmps9
      go_wp2
      go_ret
      exact ⟨rfl, rfl⟩
  · have e1 : vld o lc = false := vld_no (.inl (by omega))
    rw [e1]; clear e1
    have h1' : decide (o ≤ 4294967284) = false := by simpa using h1
    go_enter Tryd.func9, Tryd.ntmps9
    go_wp2
    go_ret
    exact ⟨rfl, rfl⟩
def opNum (k : Int) : Nat := if k = 0 then 35 else if k = 1 then 36 else if k = 2 then 37 else 38
def opLen (k : Int) : Nat := if k = 2 then 3 else 2
theorem zzCaseOp_any (k : Int) (w : World) : Calls Tryd.prog 5 #[.int .u8 k] w fun e w' => e = .returned (.int .u32 (opNum k : Int)) ∧ w = w' := by
  by_cases h0 : k = 0
  · subst h0
    go_enter Tryd.func5, Tryd.ntmps5
    go_wp2
    go_ret
    exact ⟨rfl, rfl⟩
  have h0' : (k == 0) = false := by simpa using h0
  by_cases h1 : k = 1
  · subst h1
    go_enter Tryd.func5, Tryd.ntmps5
    go_wp2
    go_ret
    exact ⟨rfl, rfl⟩
  have h1' : (k == 1) = false := by simpa using h1
  by_cases h2 : k = 2
  · subst h2
    go_enter Tryd.func5, Tryd.ntmps5
    go_wp2
    go_ret
    exact ⟨rfl, rfl⟩
  have h2' : (k == 2) = false := by simpa using h2
  have e : opNum k = 38 := by simp [opNum, h0, h1, h2]
  rw [e]
  clear e h0 h1 h2
  go_enter Tryd.func5, Tryd.ntmps5
  go_wp2
  go_ret
  exact ⟨rfl, rfl⟩
theorem zzCaseOpLen_any (k : Int) (w : World) : Calls Tryd.prog 11 #[.int .u8 k] w fun e w' => e = .returned (.int .i64 (opLen k : Int)) ∧ w = w' := by
  by_cases h0 : k = 0
  · subst h0
    go_enter Tryd.func11, Tryd.ntmps11
    go_wp2
    go_ret
    exact ⟨rfl, rfl⟩
  have h0' : (k == 0) = false := by simpa using h0
  by_cases h1 : k = 1
  · subst h1
    go_enter Tryd.func11, Tryd.ntmps11
    go_wp2
    go_ret
    exact ⟨rfl, rfl⟩
  have h1' : (k == 1) = false := by simpa using h1
  by_cases h2 : k = 2
  · subst h2
    go_enter Tryd.func11, Tryd.ntmps11
    go_wp2
    go_ret
    exact ⟨rfl, rfl⟩
  have h2' : (k == 2) = false := by simpa using h2
  have e : opLen k = 2 := by simp [opLen, h2]
  rw [e]
  clear e h0 h1 h2
  go_enter Tryd.func11, Tryd.ntmps11
  go_wp2
  go_ret
  exact ⟨rfl, rfl⟩
theorem op_len (k : Int) : opNum k < 144 ∧ (tokText (opNum k)).length = opLen k := by
  by_cases h0 : k = 0
  · subst h0; exact ⟨by decide, by decide +kernel⟩
  · by_cases h1 : k = 1
    · subst h1; exact ⟨by decide, by decide +kernel⟩
    · by_cases h2 : k = 2
      · subst h2; exact ⟨by decide, by decide +kernel⟩
      · have e : opNum k = 38 := by simp [opNum, h0, h1, h2]
        have e2 : opLen k = 2 := by simp [opLen, h2]
        rw [e, e2]
        exact ⟨by decide, by decide +kernel⟩
theorem ret_two {a b a2 b2 : Int} (h1 : a = a2) (h2 : b = b2) : Ending.returned (.tuple #[.int .u32 a, .int .u32 b]) = .returned (.tuple #[.int .u32 a2, .int .u32 b2]) := by rw [h1, h2]
set_option maxHeartbeats 1000000 in
theorem zzModel108_any (o lc n : Int) (w : World) (o0 : 0 ≤ o) (hv : vld o lc = true) (l0 : 0 ≤ lc) (l1 : lc < 4294967296) (n0 : 0 ≤ n) (n1 : n ≤ 8) :
    Calls Tryd.prog 10 #[.int .u32 o, .int .u32 lc, .int .i64 n] w fun e w' => e = .returned (.tuple #[.int .u32 (addO o lc n), .int .u32 (addL o lc n)]) ∧ w = w' := by
  obtain ⟨v1, v2⟩ := vld_true hv
  have e1 : addO o lc n = min (max (o + n) 0) 4294967284 := by simp [addO, hv]
  have e2 : addL o lc n = lc - lc % 16384 + addC lc n := by simp [addL, hv]
  rw [e1, e2]
  have HV := Lib.hid hv
  clear hv e1 e2 v2
  have hq : lc / 16384 * 16384 = lc - lc % 16384 := by omega
  have HQ := Lib.hid hq
  clear hq
  by_cases hc : lc % 16384 = 0
  · have hc' : (lc % 16384 != 0) = false := by simpa using hc
    have e3 : addC lc n = 0 := by simp [addC, hc]
    rw [e3]
    have HC := Lib.hid hc
    clear e3 hc
    by_cases ho : 4294967284 < o + n
    · have ho2 : decide (4294967284 < o + n) = true := by simpa using ho
      go_enter Tryd.func10, Tryd.ntmps10
      go_wp2_with (go_at_call 9; refine (zzValid108_any _ _ _).mono ?_; rintro e w' ⟨rfl, rfl⟩; rw [HV.out])
      go_ret2
      exact ⟨ret_two (by omega) (by have := HQ.out; have := HC.out; omega), rfl⟩
    · have ho2 : decide (4294967284 < o + n) = false := by simpa using ho
      go_enter Tryd.func10, Tryd.ntmps10
      go_wp2_with (go_at_call 9; refine (zzValid108_any _ _ _).mono ?_; rintro e w' ⟨rfl, rfl⟩; rw [HV.out])
      go_ret2
      exact ⟨ret_two (by omega) (by have := HQ.out; have := HC.out; omega), rfl⟩
  · have hc' : (lc % 16384 != 0) = true := by simpa using hc
    by_cases hb : 16383 < lc % 16384 + n
    · have e3 : addC lc n = 0 := by simp [addC, hb]
      rw [e3]
      clear e3
      have hb' : decide (16383 < lc % 16384 + n) = true := by simpa using hb
      have hb2 : decide (lc % 16384 + n < 1) = false := by simp; omega
      by_cases ho : 4294967284 < o + n
      · have ho2 : decide (4294967284 < o + n) = true := by simpa using ho
        go_enter Tryd.func10, Tryd.ntmps10
        go_wp2_with (go_at_call 9; refine (zzValid108_any _ _ _).mono ?_; rintro e w' ⟨rfl, rfl⟩; rw [HV.out])
        go_ret2
        exact ⟨ret_two (by omega) (by have := HQ.out; omega), rfl⟩
      · have ho2 : decide (4294967284 < o + n) = false := by simpa using ho
        go_enter Tryd.func10, Tryd.ntmps10
        go_wp2_with (go_at_call 9; refine (zzValid108_any _ _ _).mono ?_; rintro e w' ⟨rfl, rfl⟩; rw [HV.out])
        go_ret2
        exact ⟨ret_two (by omega) (by have := HQ.out; omega), rfl⟩
    · have e3 : addC lc n = lc % 16384 + n := by
        have : 0 < lc % 16384 := by omega
        have h2 : ¬ lc % 16384 + n < 1 := by omega
        simp [addC, this, h2, hb]
      rw [e3]
      clear e3
      have hb' : decide (16383 < lc % 16384 + n) = false := by simpa using hb
      have hb2 : decide (lc % 16384 + n < 1) = false := by simp; omega
      by_cases ho : 4294967284 < o + n
      · have ho2 : decide (4294967284 < o + n) = true := by simpa using ho
        go_enter Tryd.func10, Tryd.ntmps10
        go_wp2_with (go_at_call 9; refine (zzValid108_any _ _ _).mono ?_; rintro e w' ⟨rfl, rfl⟩; rw [HV.out])
        go_ret2
        exact ⟨ret_two (by omega) (by have := HQ.out; omega), rfl⟩
      · have ho2 : decide (4294967284 < o + n) = false := by simpa using ho
        go_enter Tryd.func10, Tryd.ntmps10
        go_wp2_with (go_at_call 9; refine (zzValid108_any _ _ _).mono ?_; rintro e w' ⟨rfl, rfl⟩; rw [HV.out])
        go_ret2
        exact ⟨ret_two (by omega) (by have := HQ.out; omega), rfl⟩
theorem posRaw108_any (o lc : Int) (w : World) :
    Calls Tryd.prog 8 #[P2 o lc] w fun e w' => e = .returned (.tuple #[.int .u32 o, .int .u32 lc]) ∧ Below w.heap.size w w' := by
  go_enter Tryd.func8, Tryd.ntmps8
  go_wp2_with fail
  go_quiet (fail)
  go_wp2
  go_ret2
  exact ⟨rfl, ⟨rfl, rfl, rfl, by simp, fun i hi => Below.heap_alloc _ _ i hi⟩⟩
theorem mkPos108_any (o lc : Int) (w : World) :
    Calls Tryd.prog 6 #[.int .u32 o, .int .u32 lc] w fun e w' => e = .returned (P2 o lc) ∧ Below w.heap.size w w' := by
  go_enter Tryd.func6, Tryd.ntmps6
  go_wp2
  go_returns
  exact ⟨rfl, by go_grown⟩
abbrev ciCells (op : Nat) (o lc : Int) : Array Value := #[.int .u32 (op : Int), .int .u32 o, .int .u32 lc, .slice none 0 0, .slice none 0 0, .slice none 0 0, .slice none 0 0]
/-- What CaseItem.End leans on. -/
def CiAt (w : World) (b op : Nat) (o lc : Int) (W : World) : Prop := Bk W b 34 (ciCells op o lc) ∧ TokIs W ∧ Below w.heap.size w W
theorem CiAt.keep {w W W1 : World} {b op : Nat} {o lc : Int} (h : CiAt w b op o lc W) (hb : Below W.heap.size W W1) : CiAt w b op o lc W1 :=
  ⟨h.1.keep hb, tabIs_below h.2.1 hb, h.2.2.trans (hb.mono h.2.2.size)⟩
theorem CiAt.drew {w W : World} {b op : Nat} {o lc : Int} (h : CiAt w b op o lc W) : CiAt w b op o lc W.drew := h.keep ⟨rfl, rfl, rfl, Nat.le_refl _, fun _ _ => rfl⟩
set_option maxHeartbeats 4000000 in
set_option maxRecDepth 100000 in
theorem CaseItem_End_valid (b op n : Nat) (o lc : Int) (w w0 : World) (h : CiAt w0 b op o lc w) (hop : op < 144) (hn : (tokText op).length = n) (hn8 : n ≤ 8) (hv : vld o lc = true) (o0 : 0 ≤ o) (o1 : o < 4294967296) (l0 : 0 ≤ lc) (l1 : lc < 4294967296) :
    Calls Tryd.prog 7 #[.pointer (some ⟨b, 0, none⟩)] w fun e w' => e = .returned (P2 (addO o lc n) (addL o lc n)) ∧ Below w.heap.size w w' := by
  have c0 : w.cell? ⟨b, 0, none⟩ = some (.int .u32 (op : Int)) := by rw [h.1.cells]; rfl
  have c1 : w.cell? ⟨b, 1, none⟩ = some (.int .u32 o) := by rw [h.1.cells]; rfl
  have c2 : w.cell? ⟨b, 2, none⟩ = some (.int .u32 lc) := by rw [h.1.cells]; rfl
  have lb := World.block_lt_of_cell? _ _ c0
  have H := Lib.hid h
  have HV := Lib.hid hv
  have HN := Lib.hid hn
  clear h hv hn
  go_enter Tryd.func7, Tryd.ntmps7
  go_wp2_with fail
  refine (isValid_any _ _ _).mono ?_
  rintro e v1 ⟨rfl, hb⟩
  rw [HV.out]
  have ha := (Below.refl _ w).alloc (Nat.le_refl _) (.cells #[.int .u32 0, .int .u32 0] 28)
  have h1 := (H.out.keep ha).keep hb
  have kR := (Bk.fresh w 28 #[.int .u32 0, .int .u32 0]).keep hb
  have B1 := bmore ha hb
  clear hb c0 c1 c2 lb H ha
  have c0 : v1.cell? ⟨b, 0, none⟩ = some (.int .u32 (op : Int)) := by rw [h1.1.cells]; rfl
  have c1 : v1.cell? ⟨b, 1, none⟩ = some (.int .u32 o) := by rw [h1.1.cells]; rfl
  have c2 : v1.cell? ⟨b, 2, none⟩ = some (.int .u32 lc) := by rw [h1.1.cells]; rfl
  have lb := World.block_lt_of_cell? _ _ c0
  have H1 := Lib.hid h1
  have KR := Lib.hid kR
  have HB1 := Lib.hid B1
  clear h1 kR B1
  go_wp2_with fail
  go_region_with (first | (go_at_call 14; refine (caseOp_String op n hop HN.out v1.drew (tabIs_below H1.out.2.1 ⟨rfl, rfl, rfl, Nat.le_refl _, fun _ _ => rfl⟩)).mono ?_; rintro e v2 ⟨s, rfl, hs, hb⟩; have h2 := H1.out.drew.keep hb; have d1 : v2.cell? ⟨b, 1, none⟩ = some (.int .u32 o) := (by rw [h2.1.cells]; rfl); have d2 : v2.cell? ⟨b, 2, none⟩ = some (.int .u32 lc) := (by rw [h2.1.cells]; rfl); have KR2 := Lib.hid (KR.out.drew.keep hb); have HB2 := Lib.hid (bmore (w := w) HB1.out.drew hb); have HS := Lib.hid hs; have hs8 : s.size ≤ 8 := (by omega); clear hs hb h2) | (go_at_call 13; refine (addCol_any _ _ _ _ o0 o1 l0 l1 (by omega) (by omega)).mono ?_; rintro e v3 ⟨rfl, hb⟩; rw [HS.out]; have kR := KR2.out.keep hb; have B3 := bmore HB2.out hb; have cR := kR.cells; have fR := kR.frz; clear hb))
  all_goals
    go_wp2
    refine bodyPost_ret (v := P2 (addO o lc n) (addL o lc n)) (by simp [results, Tryd.results7, go_sem, cR]) rfl ⟨rfl, ?_⟩
    go_grown
set_option maxRecDepth 100000 in
theorem CaseItem_End_not (b op : Nat) (o lc : Int) (w w0 : World) (h : CiAt w0 b op o lc w) (hv : vld o lc = false) :
    Calls Tryd.prog 7 #[.pointer (some ⟨b, 0, none⟩)] w fun e w' => e = .returned (P2 0 0) ∧ Below w.heap.size w w' := by
  have c1 : w.cell? ⟨b, 1, none⟩ = some (.int .u32 o) := by rw [h.1.cells]; rfl
  have c2 : w.cell? ⟨b, 2, none⟩ = some (.int .u32 lc) := by rw [h.1.cells]; rfl
  have lb := World.block_lt_of_cell? _ _ c1
  have H := Lib.hid h
  have HV := Lib.hid hv
  clear h hv
  go_enter Tryd.func7, Tryd.ntmps7
  go_wp2_with fail
  refine (isValid_any _ _ _).mono ?_
  rintro e v1 ⟨rfl, hb⟩
  rw [HV.out]
  have ha := (Below.refl _ w).alloc (Nat.le_refl _) (.cells #[.int .u32 0, .int .u32 0] 28)
  have h1 := (H.out.keep ha).keep hb
  have kR := (Bk.fresh w 28 #[.int .u32 0, .int .u32 0]).keep hb
  have B1 := bmore ha hb
  clear hb c1 c2 lb H ha
  have c5 : v1.cell? ⟨b, 5, none⟩ = some (.slice none 0 0) := by rw [h1.1.cells]; rfl
  have c6 : v1.cell? ⟨b, 6, none⟩ = some (.slice none 0 0) := by rw [h1.1.cells]; rfl
  have lb := World.block_lt_of_cell? _ _ c5
  have KR := Lib.hid kR
  have HB1 := Lib.hid B1
  clear h1 kR B1
  go_wp2_with fail
  go_still_tail 8, (by kernel_rfl)
  change wpList _ _ _ _ _ v1.drew
  go_wp2_with fail
  refine (stmtsEnd_nn _).mono ?_
  rintro e v2 ⟨rfl, hb⟩
  have kR := KR.out.drew.keep hb
  have B3 := bmore (w := w) HB1.out.drew hb
  clear hb KR HB1 c5 c6 lb
  have cR := kR.cells
  have fR := kR.frz
  go_wp2
  refine bodyPost_ret (v := P2 0 0) (by simp [results, Tryd.results7, go_sem, cR]) rfl ⟨rfl, ?_⟩
  go_grown
set_option maxHeartbeats 2000000 in
set_option maxRecDepth 100000 in
theorem walkFnCaseItemEndOpTable (a0 : Int) (a1 : Int) (a2 : Int) (w : World) (w0 : (Lit.int .u8 a0).wf = true) (w1 : (Lit.int .u32 a1).wf = true) (w2 : (Lit.int .u32 a2).wf = true) (hL : laidMetH Tryd.prog Rows.fnCaseItemEndOpTableRow.laid w) :
    Calls Tryd.prog 3 #[.int .u8 a0, .int .u32 a1, .int .u32 a2] w fun e w' => e = .returned (.bool true) ∧ Below w.heap.size w w' := by
  have b0 := bounds_u8 w0
  have b1 := bounds_u32 w1
  have b2 := bounds_u32 w2
  have ht := (tabs_of_laid hL).2
  clear w0 w1 w2 hL
  have HT := Lib.hid ht
  clear ht
  have hop := op_len a0
  have HOP := Lib.hid hop
  have ol : opLen a0 ≤ 8 := by unfold opLen; split <;> omega
  clear hop
  by_cases h3 : 3 < a0
  · go_enter Tryd.func3, Tryd.ntmps3
    go_wp2_with fail
    go_ret
    exact ⟨rfl, Below.refl _ _⟩
  go_enter Tryd.func3, Tryd.ntmps3
  go_wp2_with fail
  refine (zzReachable108_any _ _ _).mono ?_
  rintro e w' ⟨r, rfl, rfl⟩
  cases r
  · go_wp2_with fail
    go_ret
    exact ⟨rfl, Below.refl _ _⟩
  go_wp2_with fail
  refine (zzCaseOp_any _ _).mono ?_
  rintro e w' ⟨rfl, rfl⟩
  go_wp2_with fail
  refine (mkPos108_any _ _ _).mono ?_
  rintro e v1 ⟨rfl, hb⟩
  have hC : CiAt w v1.heap.size (opNum a0) a1 a2 (v1.alloc (.cells (ciCells (opNum a0) a1 a2) 34)) :=
    ⟨Bk.fresh _ _ _, tabIs_below (tabIs_below HT.out hb) ((Below.refl _ v1).alloc (Nat.le_refl _) _), hb.alloc hb.size _⟩
  have HC := Lib.hid hC
  clear hb HT hC
  cases hv : vld a1 a2
  · have HV := Lib.hid hv
    clear hv
    go_wp2_with fail
    refine (CaseItem_End_not v1.heap.size (opNum a0) a1 a2 _ w HC.out HV.out).mono ?_
    rintro e v2 ⟨rfl, hb⟩
    have B2 := Lib.hid (bmore HC.out.2.2 hb)
    clear hb HC
    go_wp2_with fail
    refine (posRaw108_any _ _ _).mono ?_
    rintro e v3 ⟨rfl, hb⟩
    have B3 := Lib.hid (bmore (B2.out.alloc B2.out.size (.cells #[.int .u32 0, .int .u32 0] 28)) hb)
    clear hb B2
    go_wp2_with (go_at_call 9; refine (zzValid108_any _ _ _).mono ?_; rintro e w' ⟨rfl, rfl⟩; rw [HV.out])
    go_ret
    exact ⟨rfl, B3.out⟩
  · have HV := Lib.hid hv
    clear hv
    go_wp2_with fail
    refine (CaseItem_End_valid v1.heap.size (opNum a0) (opLen a0) a1 a2 _ w HC.out HOP.out.1 HOP.out.2 ol HV.out (by omega) (by omega) (by omega) (by omega)).mono ?_
    rintro e v2 ⟨rfl, hb⟩
    have B2 := Lib.hid (bmore HC.out.2.2 hb)
    clear hb HC
    go_wp2_with fail
    refine (posRaw108_any _ _ _).mono ?_
    rintro e v3 ⟨rfl, hb⟩
    have B3 := Lib.hid (bmore (B2.out.alloc B2.out.size (.cells #[.int .u32 (addO a1 a2 (opLen a0)), .int .u32 (addL a1 a2 (opLen a0))] 28)) hb)
    clear hb B2
    go_wp2_with (first | (go_at_call 9; refine (zzValid108_any _ _ _).mono ?_; rintro e w' ⟨rfl, rfl⟩; rw [HV.out]) | (go_at_call 11; refine (zzCaseOpLen_any _ _).mono ?_; rintro e w' ⟨rfl, rfl⟩) | (go_at_call 10; refine (zzModel108_any _ _ _ _ (by omega) HV.out (by omega) (by omega) (by omega) (by omega)).mono ?_; rintro e w' ⟨rfl, rfl⟩))
    go_ret
    exact ⟨rfl, B3.out⟩
end Go.Proofs.YtaampofbcbophaaDoor
