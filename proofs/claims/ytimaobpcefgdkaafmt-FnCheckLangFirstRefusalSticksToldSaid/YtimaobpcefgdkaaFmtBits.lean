/- Plain law: bit operations on int64 as tests of single bits; the model's list of languages. -/
import Derived.Test.YtimaobpcefgdkaaFmtIter
import Derived.Laws.BitsLemmas
namespace Go.Proofs.YtimaobpcefgdkaaFmt
open Go.RowKit
theorem wrap_toNat (x : BitVec 64) : IntKind.i64.wrap (x.toNat : Int) = x.toInt := by
  rw [IntKind.wrap_i64]
  rw [BitVec.toInt_eq_toNat_cond]
  have := x.isLt
  split <;> omega
theorem ofInt_toInt {a : Int} (h0 : -9223372036854775808 ≤ a) (h1 : a ≤ 9223372036854775807) : (BitVec.ofInt 64 a).toInt = a := by
  rw [BitVec.toInt_ofInt]
  simp [Int.bmod]
  omega
theorem and_val (a b : Int) : bits .and .i64 a b = (BitVec.ofInt 64 a &&& BitVec.ofInt 64 b).toInt := wrap_toNat _
theorem andNot_val (a b : Int) : bits .andNot .i64 a b = (BitVec.ofInt 64 a &&& ~~~(BitVec.ofInt 64 b)).toInt := wrap_toNat _
theorem zero_iff (x : BitVec 64) : x.toInt = 0 ↔ x = 0#64 := by
  constructor
  · intro h
    exact BitVec.eq_of_toInt_eq (by simpa using h)
  · rintro rfl; rfl
/-- The bit i of an int64. -/
def tb (s : Int) (i : Nat) : Bool := (BitVec.ofInt 64 s).getLsbD i
theorem and_pow {s p : Int} {i : Nat} (hi : i < 64) (hp : BitVec.ofInt 64 p = BitVec.twoPow 64 i) : bits .and .i64 s p = 0 ↔ tb s i = false := by
  rw [and_val, zero_iff, hp, BitVec.and_twoPow]
  unfold tb
  cases h : (BitVec.ofInt 64 s).getLsbD i
  · simp
  · simp
    intro h0
    have := congrArg (fun x : BitVec 64 => x.getLsbD i) h0
    simp [hi] at this
theorem and1 (s : Int) : bits .and .i64 s 1 = 0 ↔ tb s 0 = false := and_pow (by omega) (by decide)
theorem and2 (s : Int) : bits .and .i64 s 2 = 0 ↔ tb s 1 = false := and_pow (by omega) (by decide)
theorem and4 (s : Int) : bits .and .i64 s 4 = 0 ↔ tb s 2 = false := and_pow (by omega) (by decide)
theorem and8 (s : Int) : bits .and .i64 s 8 = 0 ↔ tb s 3 = false := and_pow (by omega) (by decide)
theorem and16 (s : Int) : bits .and .i64 s 16 = 0 ↔ tb s 4 = false := and_pow (by omega) (by decide)
theorem tb_andNot8 (s : Int) (i : Nat) (hi : i < 5) : tb (bits .andNot .i64 s 8) i = (tb s i && decide (i ≠ 3)) := by
  unfold tb
  rw [andNot_val, BitVec.ofInt_toInt, BitVec.getLsbD_and, BitVec.getLsbD_not]
  have h8 : BitVec.ofInt 64 8 = BitVec.twoPow 64 3 := by decide
  rw [h8, BitVec.getLsbD_twoPow]
  have h64 : i < 64 := by omega
  simp [h64]
  rcases (by omega : i = 0 ∨ i = 1 ∨ i = 2 ∨ i = 3 ∨ i = 4) with rfl | rfl | rfl | rfl | rfl <;> simp
theorem nine (s : Int) : (bits .and .i64 9 s == 9) = (tb s 0 && tb s 3) := by
  rw [Bool.eq_iff_iff]
  simp only [beq_iff_eq, Bool.and_eq_true]
  rw [and_val]
  have h9 : (9 : Int) = (BitVec.ofInt 64 9).toInt := by decide
  rw [h9]
  have hx : BitVec.ofInt 64 (BitVec.ofInt 64 9).toInt = BitVec.ofInt 64 9 := by decide
  rw [hx]
  constructor
  · intro h
    have h1 := BitVec.eq_of_toInt_eq h
    have b0 := congrArg (fun x : BitVec 64 => x.getLsbD 0) h1
    have b3 := congrArg (fun x : BitVec 64 => x.getLsbD 3) h1
    simp only [BitVec.getLsbD_and] at b0 b3
    have e0 : (BitVec.ofInt 64 9).getLsbD 0 = true := by decide
    have e3 : (BitVec.ofInt 64 9).getLsbD 3 = true := by decide
    rw [e0] at b0
    rw [e3] at b3
    unfold tb
    exact ⟨by simpa using b0, by simpa using b3⟩
  · rintro ⟨h0, h3⟩
    congr 1
    unfold tb at h0 h3
    have e9 : BitVec.ofInt 64 9 = BitVec.twoPow 64 0 ||| BitVec.twoPow 64 3 := by decide
    rw [e9]
    apply BitVec.eq_of_getLsbD_eq
    intro i hi
    rw [BitVec.getLsbD_and, BitVec.getLsbD_or, BitVec.getLsbD_twoPow, BitVec.getLsbD_twoPow]
    by_cases i0 : i = 0
    · subst i0; simp [h0]
    · by_cases i3 : i = 3
      · subst i3; simp [h3]
      · have : ¬ 0 = i := fun h => i0 h.symm
        have : ¬ 3 = i := fun h => i3 h.symm
        simp [*]
/-- All bits of l lie in s, said in two ways. -/
theorem adm_iff {l s : Int} (h0 : -9223372036854775808 ≤ l) (h1 : l ≤ 9223372036854775807) : (bits .and .i64 l s == l) = (bits .andNot .i64 l s == 0) := by
  rw [Bool.eq_iff_iff]
  simp only [beq_iff_eq]
  rw [and_val, andNot_val, zero_iff]
  constructor
  · intro h
    have h2 : BitVec.ofInt 64 l &&& BitVec.ofInt 64 s = BitVec.ofInt 64 l := BitVec.eq_of_toInt_eq (by rw [h, ofInt_toInt h0 h1])
    apply BitVec.eq_of_getLsbD_eq
    intro i hi
    have h3 := congrArg (fun x : BitVec 64 => x.getLsbD i) h2
    simp only [BitVec.getLsbD_and] at h3
    rw [BitVec.getLsbD_and, BitVec.getLsbD_not]
    cases hl : (BitVec.ofInt 64 l).getLsbD i
    · simp
    · rw [hl] at h3
      simp at h3
      simp [h3]
  · intro h
    have h2 : BitVec.ofInt 64 l &&& BitVec.ofInt 64 s = BitVec.ofInt 64 l := by
      apply BitVec.eq_of_getLsbD_eq
      intro i hi
      have h3 := congrArg (fun x : BitVec 64 => x.getLsbD i) h
      simp only [BitVec.getLsbD_and, BitVec.getLsbD_not] at h3
      rw [BitVec.getLsbD_and]
      cases hl : (BitVec.ofInt 64 l).getLsbD i
      · simp
      · cases hs : (BitVec.ofInt 64 s).getLsbD i
        · rw [hl, hs] at h3
          simp [hi] at h3
        · rfl
    rw [h2, ofInt_toInt h0 h1]
/-- What checkLang hands to bits. -/
def effS (s : Int) : Int := if (bits .and .i64 9 s == 9) = true then bits .andNot .i64 s 8 else s
/-- The law's model list. -/
def ml (s : Int) (bt : Bool) : Nat → List Int
  | 0 => []
  | k + 1 => if bits .and .i64 s (pn k) = 0 then ml s bt k else if pn k = 8 ∧ bt = true then ml s bt k else ml s bt k ++ [pn k]
def bothB (s : Int) : Bool := tb s 0 && tb s 3
theorem ml_eq (s : Int) : bl (effS s) 5 = ml s (bothB s) 5 := by
  have key : ∀ (x : Int), bl x 5 = (((((([] : List Int) ++ (if tb x 0 then [1] else [])) ++ (if tb x 1 then [2] else [])) ++ (if tb x 2 then [4] else [])) ++ (if tb x 3 then [8] else [])) ++ (if tb x 4 then [16] else [])) := by
    intro x
    simp only [bl, pn, and1, and2, and4, and8, and16]
    cases tb x 0 <;> cases tb x 1 <;> cases tb x 2 <;> cases tb x 3 <;> cases tb x 4 <;> simp
  rw [key]
  unfold effS bothB
  simp only [nine]
  simp only [ml, pn, and1, and2, and4, and8, and16]
  by_cases hb : (tb s 0 && tb s 3) = true
  · rw [if_pos hb, hb]
    simp only [Bool.and_eq_true] at hb
    obtain ⟨e0, e3⟩ := hb
    rw [tb_andNot8 s 0 (by omega), tb_andNot8 s 1 (by omega), tb_andNot8 s 2 (by omega), tb_andNot8 s 3 (by omega), tb_andNot8 s 4 (by omega)]
    cases tb s 1 <;> cases tb s 2 <;> cases tb s 4 <;> simp [e0, e3]
  · have hb' : (tb s 0 && tb s 3) = false := by simpa using hb
    rw [if_neg hb, hb']
    cases tb s 0 <;> cases tb s 1 <;> cases tb s 2 <;> cases tb s 3 <;> cases tb s 4 <;> simp
end Go.Proofs.YtimaobpcefgdkaaFmt
