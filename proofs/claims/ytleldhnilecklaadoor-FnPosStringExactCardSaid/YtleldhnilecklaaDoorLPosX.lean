/- The walk of FnPosStringExact: the law's own decimal writer gives the same numeral. -/
import Derived.Test.YtleldhnilecklaaDoorLPosS
namespace Go.Proofs.YtleldhnilecklaaDoor
open Go.RowKit
/-- The digits, none for zero. -/
def digs (m : Nat) : List UInt8 := if m = 0 then [] else Lib.decDigits m
theorem digs_step (m : Nat) (h : m ≠ 0) : digs m = digs (m / 10) ++ [UInt8.ofNat (48 + m % 10)] := by
  unfold digs
  rw [if_neg h, Lib.decDigits]
  split
  · rename_i h1
    have h2 : m / 10 = 0 := by omega
    have h3 : m % 10 = m := by omega
    simp [h2, h3]
  · rename_i h1
    have h2 : ¬ m / 10 = 0 := by omega
    simp [h2]
theorem digs_len (m : Nat) (h : m < 18446744073709551616) : (digs m).length ≤ 20 := by
  unfold digs
  split
  · simp
  · exact dec_len m h
/-- While the digits are laid: those from i on are L; m is left. -/
def RelD (w : World) (n : Nat) (v0 v4 : Value) (wr : World) : Prop :=
  ∃ (i m : Nat) (L : List UInt8) (cs : Array Value), i + L.length = 24 ∧ v0 = .int .u64 (m : Int) ∧ v4 = .int .i64 (i : Int) ∧ m < 18446744073709551616 ∧ digs n = digs m ++ L ∧ Bk wr w.heap.size 53 cs ∧ cs.size = 24 ∧ (∀ j, j < L.length → cs[i + j]? = some (.int .u8 ((L.getD j 0).toNat : Int))) ∧ Below w.heap.size w wr
set_option maxHeartbeats 2000000 in
set_option maxRecDepth 100000 in
theorem zzDec_any (n : Nat) (h0 : n ≠ 0) (h64 : n < 18446744073709551616) (w : World) :
    Calls Tryd.prog 28 #[.int .u64 (n : Int)] w fun e w' => e = .returned (.string ⟨(Lib.decDigits n).toArray⟩) ∧ Below w.heap.size w w' := by
  have hne : ((n : Int) == 0) = false := by simp; omega
  have HD := Lib.hid (digs_len n h64)
  have H0 := Lib.hid h0
  clear h0
  go_enter Tryd.func28, Tryd.ntmps28
  go_wp2
  go_loopw [0, 4] (fun v0 v4 wr => RelD w n v0 v4 wr) (fun v0 _ _ => (intOf v0).toNat)
  case atStart => exact ⟨24, n, [], _, rfl, rfl, rfl, h64, by simp, Bk.fresh _ _ _, rfl, fun j hj => by simp at hj, by go_grown⟩
  case round =>
    obtain ⟨i, m, L, cs, hi, rfl, rfl, hm64, hd, hk, hcs, hL, hB⟩ := hrel
    by_cases hm : m = 0
    · subst hm
      have hd2 : digs n = L := by simpa [digs] using hd
      have hdn : Lib.decDigits n = L := by have := H0.out; simpa [digs, this] using hd2
      have hLn : L ≠ [] := by
        intro h
        rw [h] at hdn
        have := Lib.decDigits_length n
        rw [hdn] at this
        have := Lib.nDigits_pos n
        simp at *
        omega
      have hl1 : 1 ≤ L.length := List.length_pos_iff.2 hLn
      have hi24 : i < 24 := by omega
      have hal : Tryd.prog.arrayLen 53 = 24 := by kernel_rfl
      have hsl : ∀ W, (Instr.sliceAt 53 (.pointer (some ⟨w.heap.size, 0, none⟩)) (some (.int .i64 (i : Int))) none none).run Tryd.prog W = .ok (.slice (some ⟨w.heap.size, i, none⟩) L.length L.length) W := fun W => by
        rw [run_sliceAt_array_l W 53 ⟨w.heap.size, 0, none⟩ (by kernel_rfl) .i64 (i : Int) (by omega) (by rw [hal]; omega)]
        have hz : (sizeOf (Tryd.prog.elem 53)).run Tryd.prog W = .ok 1 W := by kernel_rfl
        rw [hz, hal]
        have e1 : 24 - i = L.length := by omega
        have e2 : ¬ 24 = i := by omega
        simp [slicedAt, Result.andThen, e1, e2, Addr.add]
        omega
      have hcv : (convert 40 9 (.slice (some ⟨w.heap.size, i, none⟩) L.length L.length)).run Tryd.prog wr = .ok (.string ⟨L.toArray⟩) wr :=
        run_convert_bytes_back (P := Tryd.prog) wr 40 9 5 ⟨w.heap.size, i, none⟩ L.length L Tryd.underlying40 Tryd.underlying5 Tryd.underlying9 (fun j hj => by
          rw [Lib.add_plain, hk.cells, hL j hj]
          simp [List.getD, hj])
      have HDN := Lib.hid hdn
      clear hdn hd2 hd hLn hal hk hcs hL hi
      go_wp2
      go_ret
      exact ⟨by rw [HDN.out]; rfl, hB⟩
    · have hlen : L.length + 1 ≤ 20 := by
        have h1 := HD.out
        rw [hd, digs_step m hm] at h1
        simp at h1
        omega
      obtain ⟨i', rfl⟩ : ∃ i', i = i' + 1 := ⟨i - 1, by omega⟩
      have hgt : (0 : Int) < (m : Int) := by omega
      have hq : (m : Int) / 10 = ((m / 10 : Nat) : Int) := by omega
      have hr : (m : Int) % 10 = ((m % 10 : Nat) : Int) := by omega
      obtain ⟨u, ci⟩ : ∃ u, wr.cell? ⟨w.heap.size, i', none⟩ = some u := ⟨cs[i']'(by omega), by rw [hk.cells, Array.getElem?_eq_getElem]⟩
      have fi := hk.frz
      have li := hk.lt
      have j1 : (i' : Int) < 24 := by omega
      have j2 : (0 : Int) ≤ (i' : Int) := by omega
      have HK := Lib.hid hk
      have HLL := Lib.hid hL
      have HDD := Lib.hid hd
      have HCS := Lib.hid hcs
      have HI := Lib.hid hi
      clear hk hL hd hcs hi hq hr
      go_wp2
      have hdg : (UInt8.ofNat (48 + m % 10)).toNat = 48 + m % 10 := by simp; omega
      have hI := HI.out
      have hC := HCS.out
      refine ⟨⟨i', m / 10, UInt8.ofNat (48 + m % 10) :: L, _, by simp; omega, by congr 1, rfl, by omega, ?_, HK.out.put i' _, by simp [hC], ?_, hB.setCell (by simp) _⟩, by simp [intOf]; omega⟩
      · rw [HDD.out, digs_step m hm]
        simp
      · intro j hj
        rcases j with _ | j
        · have hlt : i' < cs.size := by omega
          simp only [Nat.add_zero, List.getD_cons_zero, hdg]
          rw [Array.getElem?_setIfInBounds_self_of_lt hlt]
          congr 2
        · have hj2 : j < L.length := by simpa using hj
          have h1 := HLL.out j hj2
          have h2 : i' + (j + 1) = i' + 1 + j := by omega
          rw [h2, Array.getElem?_setIfInBounds_ne (by omega), h1]
          simp
theorem zzField_any (n m : Nat) (h64 : n < 18446744073709551616) (w : World) :
    Calls Tryd.prog 12 #[.int .u64 (n : Int), .int .u64 (m : Int)] w fun e w' => e = .returned (.string ⟨(fieldL (if m < n then 0 else n)).toArray⟩) ∧ Below w.heap.size w w' := by
  by_cases h0 : n = 0
  · subst h0
    have e1 : fieldL (if m < 0 then 0 else 0) = [63] := by simp [fieldL]
    rw [e1]
    clear e1
    go_enter Tryd.func12, Tryd.ntmps12
    go_wp2
    go_ret
    exact ⟨rfl, Below.refl _ _⟩
  have h0' : ((n : Int) == 0) = false := by simp; omega
  by_cases h1 : m < n
  · have h1' : decide ((m : Int) < (n : Int)) = true := by simp; omega
    have h1'' : decide (m < n) = true := by simpa using h1
    have e1 : fieldL (if m < n then 0 else n) = [63] := by simp [fieldL, h1]
    rw [e1]
    clear e1
    go_enter Tryd.func12, Tryd.ntmps12
    go_wp2
    go_ret
    exact ⟨rfl, Below.refl _ _⟩
  · have h1' : decide ((m : Int) < (n : Int)) = false := by simp; omega
    have h1'' : decide (m < n) = false := by simpa using h1
    have e1 : fieldL (if m < n then 0 else n) = Lib.decDigits n := by simp [fieldL, h1, h0]
    rw [e1]
    have H0 := Lib.hid h0
    clear e1 h0
    go_enter Tryd.func12, Tryd.ntmps12
    go_wp2_with (go_at_call 28; refine (zzDec_any n H0.out h64 _).mono ?_; rintro e w1 ⟨rfl, hb⟩)
    go_ret
    exact ⟨rfl, hb⟩
theorem npF_nat (l m : Nat) : npF (l : Int) (m : Int) = ((if m < l then 0 else l : Nat) : Int) := by
  unfold npF
  by_cases h : m < l
  · have : (m : Int) < (l : Int) := by omega
    simp [h]
  · have : ¬ (m : Int) < (l : Int) := by omega
    simp [h]
set_option maxHeartbeats 2000000 in
set_option maxRecDepth 100000 in
theorem walkFnPosStringExact (a0 : Int) (a1 : Int) (a2 : Int) (w : World) (w0 : (Lit.int .u64 a0).wf = true) (w1 : (Lit.int .u64 a1).wf = true) (w2 : (Lit.int .u64 a2).wf = true) (hL : laidMetH Tryd.prog Rows.fnPosStringExactRow.laid w) :
    Calls Tryd.prog 3 #[.int .u64 a0, .int .u64 a1, .int .u64 a2] w fun e w' => e = .returned (.bool true) ∧ Below w.heap.size w w' := by
  have b0 := bounds_u64 w0
  have b1 := bounds_u64 w1
  have b2 := bounds_u64 w2
  rw [MakeChecks.laidMetH_plain _ _ _ (by kernel_rfl)] at hL
  have ht := pow_of_laid hL
  clear w0 w1 w2 hL
  obtain ⟨l, rfl⟩ : ∃ l : Nat, a1 = (l : Int) := ⟨a1.toNat, by omega⟩
  obtain ⟨c, rfl⟩ : ∃ c : Nat, a2 = (c : Int) := ⟨a2.toNat, by omega⟩
  have hbl := npL_bd (l : Int) (c : Int) (by omega) (by omega)
  have hln := np_line (l : Int) (c : Int) (by omega) (by omega)
  have e1 := npF_nat l 262143
  have e2 := npF_nat c 16383
  have hln1 : npL (l : Int) (c : Int) / 16384 = ((if 262143 < l then 0 else l : Nat) : Int) := hln.1.trans e1
  have hln2 : npL (l : Int) (c : Int) % 16384 = ((if 16383 < c then 0 else c : Nat) : Int) := hln.2.trans e2
  have HL1 := Lib.hid hln1
  have HL2 := Lib.hid hln2
  have HT := Lib.hid ht
  clear hln hln1 hln2 e1 e2 ht
  obtain ⟨ln, hln⟩ : ∃ ln : Nat, ln = if 262143 < l then 0 else l := ⟨_, rfl⟩
  obtain ⟨cn, hcn⟩ : ∃ cn : Nat, cn = if 16383 < c then 0 else c := ⟨_, rfl⟩
  have bl : ln < 18446744073709551616 := by rw [hln]; split <;> omega
  have bc : cn < 18446744073709551616 := by rw [hcn]; split <;> omega
  have fl : (fieldL ln).length ≤ 20 := by unfold fieldL; split; · simp
                                          · exact dec_len ln bl
  have fc : (fieldL cn).length ≤ 20 := by unfold fieldL; split; · simp
                                          · exact dec_len cn bc
  have HLN := Lib.hid hln
  have HCN := Lib.hid hcn
  clear hln hcn
  go_enter Tryd.func3, Tryd.ntmps3
  go_wp2_with fail
  refine (newPos_any _ _ _ _ (by omega) (by omega) (by omega) (by omega) (by omega) (by omega)).mono ?_
  rintro e v1 ⟨rfl, hb⟩
  have HT1 := Lib.hid (tabIs_below HT.out hb)
  have B1 := Lib.hid hb
  clear HT hb
  go_wp2_with fail
  refine (posString_any _ _ ln cn _ HT1.out (by omega) (by omega) (by rw [HLN.out]; exact HL1.out) (by rw [HCN.out]; exact HL2.out)).mono ?_
  rintro e v2 ⟨rfl, hb⟩
  have B2 := Lib.hid (bmore B1.out hb)
  clear HT1 B1 hb
  go_wp2_with fail
  refine (zzField_any l 262143 (by omega) _).mono ?_
  rintro e v3 ⟨rfl, hb⟩
  rw [← HLN.out]
  have B3 := Lib.hid (bmore B2.out hb)
  clear B2 hb
  go_wp2_with fail
  refine (zzField_any c 16383 (by omega) _).mono ?_
  rintro e v4 ⟨rfl, hb⟩
  rw [← HCN.out]
  have B4 := Lib.hid (bmore B3.out hb)
  clear B3 hb
  have he : posText ln cn = fieldL ln ++ [58] ++ fieldL cn := rfl
  rw [he]
  clear he
  have hq : (fieldL ln ++ 58 :: fieldL cn == ((⟨(fieldL ln).toArray⟩ : ByteArray) ++ ⟨#[58]⟩ ++ ⟨(fieldL cn).toArray⟩).toList) = true := by
    rw [ByteArray.toList_eq]
    simp
  go_wp2
  go_ret
  exact ⟨rfl, B4.out⟩
end Go.Proofs.YtleldhnilecklaaDoor
