/- The walks of FnPosRecoveredSentinel and FnPosIsValidAgreesWithString. -/
import Derived.Test.YtleldhnilecklaaDoorPosStr
namespace Go.Proofs.YtleldhnilecklaaDoor
open Go.RowKit
theorem pow_of_laid {W : World} {rest : List (String × DataW Unit)} (hp : laidMet Tryd.prog (("math/bits.deBruijn32tab", Rows.laid_math_bits_deBruijn32tab) :: ("math/bits.deBruijn64tab", Rows.laid_math_bits_deBruijn64tab) :: ("internal/strconv.uint64pow10", Rows.laid_internal_strconv_uint64pow10) :: rest) W) : PowIs W := by
  have h3 := hp.tail.tail
  rw [laidPow_eq] at h3
  exact Lib.tabIs_of_head gPow tPow Tryd.underlying66 Tryd.underlying48 (by kernel_rfl) (by kernel_rfl) h3
/-- The stored line and column of NewPos. -/
theorem np_line (l c : Int) (l0 : 0 ≤ l) (c0 : 0 ≤ c) : npL l c / 16384 = npF l 262143 ∧ npL l c % 16384 = npF c 16383 := by
  have h1 := npF_bd l 262143 l0 (by omega)
  have h2 := npF_bd c 16383 c0 (by omega)
  unfold npL
  omega
theorem dec_ne (n : Nat) (h : n ≠ 0) : Lib.decDigits n ≠ [63] := by
  intro e
  have := digVal_dec n
  rw [e] at this
  simp [digVal] at this
  have h2 : n = 15 := by omega
  subst h2
  revert e
  decide +kernel
theorem dec_no58 (n : Nat) : ∀ d ∈ Lib.decDigits n, 48 ≤ d.toNat ∧ d.toNat ≤ 57 := by
  induction n using Nat.strongRecOn with
  | _ n ih =>
    rw [Lib.decDigits]
    split
    · rename_i h
      intro d hd
      rw [List.mem_singleton] at hd
      subst hd
      have : (UInt8.ofNat (48 + n)).toNat = 48 + n := by simp; omega
      omega
    · rename_i h
      intro d hd
      rw [List.mem_append] at hd
      rcases hd with hd | hd
      · exact ih (n / 10) (by omega) d hd
      · rw [List.mem_singleton] at hd
        subst hd
        have : (UInt8.ofNat (48 + n % 10)).toNat = 48 + n % 10 := by simp; omega
        omega
theorem posText_q (ln cn : Nat) : posText ln cn = [63, 58, 63] ↔ ln = 0 ∧ cn = 0 := by
  constructor
  · intro h
    unfold posText fieldL at h
    by_cases hl : ln = 0
    · by_cases hc : cn = 0
      · exact ⟨hl, hc⟩
      · simp [hl, hc] at h
        exact absurd h (dec_ne cn hc)
    · rw [if_neg hl] at h
      have h2 := dec_no58 ln
      cases hd : Lib.decDigits ln with
      | nil =>
        have := Lib.decDigits_length ln
        rw [hd] at this
        have := Lib.nDigits_pos ln
        simp at *
        omega
      | cons d r =>
        rw [hd] at h h2
        simp at h
        have := h2 d (by simp)
        rw [h.1] at this
        exact absurd this.2 (by decide)
  · rintro ⟨rfl, rfl⟩
    rfl
set_option maxHeartbeats 2000000 in
set_option maxRecDepth 100000 in
theorem walkFnPosIsValidAgreesWithString (a0 : Int) (a1 : Int) (a2 : Int) (w : World) (w0 : (Lit.int .u64 a0).wf = true) (w1 : (Lit.int .u64 a1).wf = true) (w2 : (Lit.int .u64 a2).wf = true) (hL : laidMetH Tryd.prog Rows.fnPosIsValidAgreesWithStringRow.laid w) :
    Calls Tryd.prog 4 #[.int .u64 a0, .int .u64 a1, .int .u64 a2] w fun e w' => e = .returned (.bool true) ∧ Below w.heap.size w w' := by
  have b0 := bounds_u64 w0
  have b1 := bounds_u64 w1
  have b2 := bounds_u64 w2
  rw [MakeChecks.laidMetH_plain _ _ _ (by kernel_rfl)] at hL
  have ht := pow_of_laid hL
  clear w0 w1 w2 hL
  have hb1 := npF_bd a1 262143 (by omega) (by omega)
  have hb2 := npF_bd a2 16383 (by omega) (by omega)
  have hbo := npO_bd a0 (by omega)
  have hbl := npL_bd a1 a2 (by omega) (by omega)
  have hln := np_line a1 a2 (by omega) (by omega)
  obtain ⟨ln, h1⟩ : ∃ ln : Nat, npF a1 262143 = (ln : Int) := ⟨(npF a1 262143).toNat, by omega⟩
  obtain ⟨cn, h2⟩ : ∃ cn : Nat, npF a2 16383 = (cn : Int) := ⟨(npF a2 16383).toNat, by omega⟩
  rw [h1, h2] at hln
  have hz : npL a1 a2 = 0 ↔ ln = 0 ∧ cn = 0 := by unfold npL; rw [h1, h2]; omega
  obtain ⟨o, ho⟩ : ∃ o, o = npO a0 := ⟨_, rfl⟩
  obtain ⟨lc, hlc⟩ : ∃ lc, lc = npL a1 a2 := ⟨_, rfl⟩
  rw [← hlc] at hln hbl hz
  rw [← ho] at hbo
  have HO := Lib.hid ho
  have HLC := Lib.hid hlc
  have HT := Lib.hid ht
  have HLN := Lib.hid hln
  clear ho hlc ht hln h1 h2 hb1 hb2
  have hs : posText ln cn = [63, 58, 63] ↔ lc = 0 := by rw [posText_q, hz]
  obtain ⟨s, hsd⟩ : ∃ s : ByteArray, s = ⟨(posText ln cn).toArray⟩ := ⟨_, rfl⟩
  have hse : (s.toList = [63, 58, 63]) ↔ lc = 0 := by rw [hsd, ByteArray.toList_mk]; exact hs
  have HSD := Lib.hid hsd
  clear hs hsd
  have hll : lc = 0 → ln = 0 ∧ cn = 0 := hz.1
  have hzl : ln = 0 ∧ cn = 0 → lc = 0 := hz.2
  clear hz
  go_enter Tryd.func4, Tryd.ntmps4
  go_wp2_with fail
  refine (newPos_any _ _ _ _ (by omega) (by omega) (by omega) (by omega) (by omega) (by omega)).mono ?_
  rintro e v1 ⟨rfl, hb⟩
  rw [← HO.out, ← HLC.out]
  have ht1 := Lib.hid (tabIs_below HT.out hb)
  have B1 := Lib.hid hb
  clear HT hb
  go_wp2_with fail
  refine (isValid_any _ _ _).mono ?_
  rintro e v2 ⟨rfl, hb⟩
  have ha := (Below.refl _ v1).alloc (Nat.le_refl _) (.cells #[.int .u32 o, .int .u32 lc] 25)
  have ht2 := Lib.hid (tabIs_below (tabIs_below ht1.out ha) hb)
  have kP := Lib.hid ((Bk.fresh v1 25 #[.int .u32 o, .int .u32 lc]).keep hb)
  have B2 := Lib.hid (bmore (bmore B1.out ha) hb)
  clear ht1 B1 hb ha
  have c2 := kP.out.cells
  have l2 := kP.out.lt
  go_wp2_with fail
  refine (posString_any o lc ln cn _ ht2.out (by omega) (by omega) HLN.out.1 HLN.out.2).mono ?_
  rintro e v3 ⟨rfl, hb⟩
  rw [← HSD.out]
  have k3 := Lib.hid (kP.out.keep hb)
  have B3 := Lib.hid (bmore B2.out hb)
  clear c2 l2 kP B2 ht2 hb
  have c3 := k3.out.cells
  have l3 := k3.out.lt
  by_cases hlc : lc = 0
  · have hv : vld o lc = false := vld_no (.inr hlc)
    have hs1 : s.toList = [63, 58, 63] := hse.2 hlc
    have hs2 : (s.toList != [63, 58, 63]) = false := by rw [hs1]; rfl
    obtain ⟨rfl, rfl⟩ := hll hlc
    rw [hv]
    clear hse hll hzl hv hs1 hlc
    have hs3 : (s.toList == [63, 58, 63]) = true := by simpa using hs2
    go_wp2_with fail
    refine (line_any o lc _ (by omega) (by omega)).mono ?_
    rintro e v4 ⟨rfl, hb⟩
    rw [HLN.out.1]
    have k4 := Lib.hid (k3.out.keep hb)
    have B4 := Lib.hid (bmore B3.out hb)
    clear c3 l3 k3 B3 hb
    have c4 := k4.out.cells
    have l4 := k4.out.lt
    go_wp2_with fail
    refine (col_any o lc _ (by omega) (by omega)).mono ?_
    rintro e v5 ⟨rfl, hb⟩
    rw [HLN.out.2]
    have k5 := Lib.hid (k4.out.keep hb)
    have B5 := Lib.hid (bmore B4.out hb)
    clear c4 l4 k4 B4 hb
    have c5 := k5.out.cells
    have l5 := k5.out.lt
    go_wp2
    go_ret
    exact ⟨rfl, B5.out⟩
  · have hv : vld o lc = true := vld_mk (by omega) hlc
    have hs1 : ¬ s.toList = [63, 58, 63] := fun h => hlc (hse.1 h)
    have hs3 : (s.toList == [63, 58, 63]) = false := by simpa using hs1
    have hs2 : (s.toList != [63, 58, 63]) = true := by simpa using hs1
    rw [hv]
    by_cases hl : ln = 0
    · have hc : cn ≠ 0 := fun h => hlc (hzl ⟨hl, h⟩)
      have hc' : ((cn : Int) != 0) = true := by simp; omega
      have hc2 : ((cn : Int) == 0) = false := by simp; omega
      subst hl
      clear hse hll hzl hv hs1 hlc hc
      go_wp2_with fail
      refine (line_any o lc _ (by omega) (by omega)).mono ?_
      rintro e v4 ⟨rfl, hb⟩
      rw [HLN.out.1]
      have k4 := Lib.hid (k3.out.keep hb)
      have B4 := Lib.hid (bmore B3.out hb)
      clear c3 l3 k3 B3 hb
      have c4 := k4.out.cells
      have l4 := k4.out.lt
      go_wp2_with fail
      refine (col_any o lc _ (by omega) (by omega)).mono ?_
      rintro e v5 ⟨rfl, hb⟩
      rw [HLN.out.2]
      have k5 := Lib.hid (k4.out.keep hb)
      have B5 := Lib.hid (bmore B4.out hb)
      clear c4 l4 k4 B4 hb
      have c5 := k5.out.cells
      have l5 := k5.out.lt
      go_wp2
      go_ret
      exact ⟨rfl, B5.out⟩
    · have hl' : ((ln : Int) != 0) = true := by simp; omega
      have hl2 : ((ln : Int) == 0) = false := by simp; omega
      clear hse hll hzl hv hs1 hlc hl
      go_wp2_with fail
      refine (line_any o lc _ (by omega) (by omega)).mono ?_
      rintro e v4 ⟨rfl, hb⟩
      rw [HLN.out.1]
      have k4 := Lib.hid (k3.out.keep hb)
      have B4 := Lib.hid (bmore B3.out hb)
      clear c3 l3 k3 B3 hb
      have c4 := k4.out.cells
      have l4 := k4.out.lt
      go_wp2
      go_ret
      exact ⟨rfl, B4.out⟩
end Go.Proofs.YtleldhnilecklaaDoor
