/- Plain arithmetic of source positions: the bit operations on the packed line and column word as division and remainder; no program in sight. -/
import Derived.WalkKit
namespace Go.Proofs.YtimaobpcefgdkaaFmt
open Go.RowKit

theorem and_col (lc : Int) (h0 : 0 ≤ lc) (h1 : lc < 4294967296) : bits .and .u32 lc 16383 = lc % 16384 := by
  rw [u32_and lc 16383 h0 h1 (by omega) (by omega)]
  have e : (16383 : Int).toNat = 16383 := by decide
  rw [e, nat_mask14]
  omega

theorem nat_andNot14 (a : Nat) (ha : a < 4294967296) : a &&& (4294967295 - 16383) = a - a % 16384 := by
  have e : a = a / 16384 * 16384 + a % 16384 := by omega
  have h1 : (4294967295 - 16383 : Nat) = 262143 <<< 14 := by decide
  apply Nat.eq_of_testBit_eq
  intro i
  rw [Nat.testBit_and, h1, Nat.testBit_shiftLeft]
  have e2 : a - a % 16384 = (a / 16384) <<< 14 := by rw [Nat.shiftLeft_eq]; omega
  rw [e2, Nat.testBit_shiftLeft]
  by_cases h : 14 ≤ i
  · have hd : (a / 16384).testBit (i - 14) = a.testBit i := by
      have : a / 16384 = a >>> 14 := by rw [Nat.shiftRight_eq_div_pow]
      rw [this, Nat.testBit_shiftRight]
      congr 1; omega
    rw [hd]
    have hm : (262143 : Nat) = 2 ^ 18 - 1 := by decide
    rw [hm, Nat.testBit_two_pow_sub_one]
    by_cases h2 : i - 14 < 18
    · simp [h, h2]
    · have hz : a.testBit i = false := by
        apply Nat.testBit_lt_two_pow
        have : 2 ^ 32 ≤ 2 ^ i := Nat.pow_le_pow_right (by omega) (by omega)
        have : (2 : Nat) ^ 32 = 4294967296 := by decide
        omega
      simp [hz]
  · simp [h]

theorem andNot_col (lc : Int) (h0 : 0 ≤ lc) (h1 : lc < 4294967296) : bits .andNot .u32 lc 16383 = lc - lc % 16384 := by
  rw [u32_andNot lc 16383 h0 h1 (by omega) (by omega)]
  have e : (16383 : Int).toNat = 16383 := by decide
  rw [e, nat_andNot14 lc.toNat (by omega)]
  omega

theorem or_col (x y : Int) (h0 : 0 ≤ x) (h1 : x < 4294967296) (hx : x % 16384 = 0) (h2 : 0 ≤ y) (h3 : y < 16384) : bits .or .u32 x y = x + y := by
  rw [u32_or x y h0 h1 h2 (by omega)]
  have k : (2 : Nat) ^ 14 = 16384 := by decide
  have e : x.toNat ||| y.toNat = x.toNat + y.toNat := nat_join 14 x.toNat y.toNat (by rw [k]; omega) (by rw [k]; omega)
  rw [e]; omega

/-- A position is valid: its offset is a real one and its packed word is not zero. -/
def vld (o lc : Int) : Bool := decide (o ≤ 4294967284) && (lc != 0)
def addO (o lc n : Int) : Int := if vld o lc then min (max (o + n) 0) 4294967284 else o
def addC (lc n : Int) : Int := if 0 < lc % 16384 then (if lc % 16384 + n < 1 ∨ 16383 < lc % 16384 + n then 0 else lc % 16384 + n) else 0
def addL (o lc n : Int) : Int := if vld o lc then lc - lc % 16384 + addC lc n else lc

theorem addC_bd (lc n : Int) : 0 ≤ addC lc n ∧ addC lc n ≤ 16383 := by
  unfold addC; split <;> (try split) <;> omega
theorem addO_bd (o lc n : Int) (h0 : 0 ≤ o) (h1 : o < 4294967296) : 0 ≤ addO o lc n ∧ addO o lc n < 4294967296 := by
  unfold addO; split <;> omega
theorem addL_bd (o lc n : Int) (h0 : 0 ≤ lc) (h1 : lc < 4294967296) : 0 ≤ addL o lc n ∧ addL o lc n < 4294967296 := by
  have := addC_bd lc n
  unfold addL; split <;> omega
theorem vld_true {o lc : Int} (h : vld o lc = true) : o ≤ 4294967284 ∧ lc ≠ 0 := by
  simpa [vld] using h
theorem vld_false {o lc : Int} (h : vld o lc = false) : 4294967284 < o ∨ lc = 0 := by
  simp [vld] at h
  by_cases h1 : o ≤ 4294967284
  · exact .inr (h h1)
  · exact .inl (by omega)
theorem vld_mk {o lc : Int} (h1 : o ≤ 4294967284) (h2 : lc ≠ 0) : vld o lc = true := by simp [vld, h1, h2]
theorem vld_no {o lc : Int} (h : 4294967284 < o ∨ lc = 0) : vld o lc = false := by
  rcases h with h | h
  · have : ¬ o ≤ 4294967284 := by omega
    simp [vld, this]
  · simp [vld, h]

/-- What Offset answers; what After answers. -/
def offv (o : Int) : Int := if 4294967284 < o then 0 else o
def aft (o lc o2 : Int) : Bool := vld o lc && decide (o2 < o)

/-- What NewPos stores. -/
def npO (o : Int) : Int := min o 4294967284
def npF (l m : Int) : Int := if m < l then 0 else l
def npL (l c : Int) : Int := npF l 262143 * 16384 + npF c 16383

theorem npF_bd (l m : Int) (h0 : 0 ≤ l) (hm : 0 ≤ m) : 0 ≤ npF l m ∧ npF l m ≤ m := by unfold npF; split <;> omega
theorem npO_bd (o : Int) (h0 : 0 ≤ o) : 0 ≤ npO o ∧ npO o ≤ 4294967284 := by unfold npO; omega
theorem npL_bd (l c : Int) (h0 : 0 ≤ l) (h1 : 0 ≤ c) : 0 ≤ npL l c ∧ npL l c < 4294967296 := by
  have := npF_bd l 262143 h0 (by omega); have := npF_bd c 16383 h1 (by omega); unfold npL; omega
end Go.Proofs.YtimaobpcefgdkaaFmt
