/- The contract of Pos.String: a line field, a colon, a column field. -/
import Derived.Test.YtleldhnilecklaaDoorFmtU
import Derived.Test.YtleldhnilecklaaDoorBuilder
import Derived.Test.YtleldhnilecklaaDoorRow
namespace Go.Proofs.YtleldhnilecklaaDoor
open Go.RowKit
/-- A field: the number in decimal, or a question mark. -/
def fieldL (n : Nat) : List UInt8 := if n = 0 then [63] else Lib.decDigits n
def posText (ln cn : Nat) : List UInt8 := fieldL ln ++ [58] ++ fieldL cn
/-- While the text is built: the builder at b holds bs, the position's box stands, what lay below stands. -/
def StS (w : World) (o lc : Int) (l : List UInt8) (W : World) : Prop :=
  Lib.IsBuilder 42 5 (w.heap.size + 1) (w.heap.size + 1) (Lib.byteCells l) W ∧ Bk W w.heap.size 25 #[.int .u32 o, .int .u32 lc] ∧ Below w.heap.size w W ∧ w.heap.size + 1 < W.heap.size
theorem bld_keep {T e : TypeId} {B b : Nat} {p : Value} {bs : List Value} {W W1 : World} (h : Lib.BuilderAt T e B b p bs W) (hb : Below W.heap.size W W1) : Lib.BuilderAt T e B b p bs W1 := by
  have hlt := h.lt
  obtain ⟨hB, v, hk, ho, hne⟩ := h
  exact ⟨hB, v, (hb.block b hlt).trans hk, own_below ho hb, hne⟩
theorem StS.call {w W W1 : World} {o lc : Int} {l : List UInt8} (h : StS w o lc l W) (hb : Below W.heap.size W W1) : StS w o lc l W1 :=
  ⟨h.1.elim (fun k => .inl (bld_keep k hb)) (fun k => .inr (bld_keep k hb)), h.2.1.keep hb, bmore h.2.2.1 hb, Nat.lt_of_lt_of_le h.2.2.2 hb.size⟩
theorem StS.wrote {w W W1 : World} {o lc : Int} {l l' : List UInt8} (h : StS w o lc l W) (hA : Lib.BuilderAt 42 5 (w.heap.size + 1) (w.heap.size + 1) (.pointer (some ⟨w.heap.size + 1, 0, none⟩)) (Lib.byteCells l') W1) (hb : Below (w.heap.size + 1) W W1) : StS w o lc l' W1 :=
  ⟨.inr hA, h.2.1.of_below hb (by omega), h.2.2.1.trans (hb.mono (by omega)), Nat.lt_of_lt_of_le h.2.2.2 hb.size⟩
theorem byteCells_app (l l' : List UInt8) : Lib.byteCells l ++ Lib.strCells ⟨l'.toArray⟩ = Lib.byteCells (l ++ l') := by simp [Lib.byteCells, Lib.strCells]
theorem byteCells_63 (l : List UInt8) : Lib.byteCells l ++ [.int .u8 63] = Lib.byteCells (l ++ [63]) := by simp [Lib.byteCells]
theorem byteCells_58 (l : List UInt8) : Lib.byteCells l ++ [.int .u8 58] = Lib.byteCells (l ++ [58]) := by simp [Lib.byteCells]
theorem dec_len (n : Nat) (h : n < 18446744073709551616) : (Lib.decDigits n).length ≤ 20 := by
  rw [Lib.decDigits_length]
  by_cases h0 : n = 0
  · subst h0; decide +kernel
  · have := Lib.numDigits_eq n (by omega) h
    split at this <;> omega
set_option maxHeartbeats 2000000 in
set_option maxRecDepth 100000 in
theorem posString_nn (o lc : Int) (ln cn : Nat) (w : World) (ht : PowIs w) (l0 : 0 ≤ lc) (l1 : lc < 4294967296) (hln : lc / 16384 = (ln : Int)) (hcn : lc % 16384 = (cn : Int)) (hl : ln ≠ 0) (hc : cn ≠ 0) :
    Calls Tryd.prog 11 #[P2 o lc] w fun e w' => e = .returned (.string ⟨(posText ln cn).toArray⟩) ∧ Below w.heap.size w w' := by
  have bl : ln < 18446744073709551616 := by omega
  have bc : cn < 18446744073709551616 := by omega
  have dl := dec_len ln bl
  have dc := dec_len cn bc
  have HT := Lib.hid ht
  have HLN := Lib.hid hln
  have HCN := Lib.hid hcn
  have HL := Lib.hid hl
  have HC := Lib.hid hc
  clear ht hln hcn hl hc
  go_enter Tryd.func11, Tryd.ntmps11
  go_wp2_with fail
  refine (line_any o lc _ l0 l1).mono ?_
  rintro e v1 ⟨rfl, hb⟩
  rw [HLN.out]
  have hS : StS w o lc [] v1 := by
    refine StS.call (W := (w.alloc (.cells #[.int .u32 o, .int .u32 lc] 25)).alloc (.cells #[.pointer none, .slice none 0 0] 42)) ⟨?_, (Bk.fresh _ _ _).alloc _, by go_grown, by simp⟩ hb
    have h := Lib.fresh_isBuilder 42 5 (w.alloc (.cells #[.int .u32 o, .int .u32 lc] 25))
    have hz : (w.alloc (.cells #[.int .u32 o, .int .u32 lc] 25)).heap.size = w.heap.size + 1 := by simp
    rw [hz] at h
    exact h
  have HS := Lib.hid hS
  clear hS hb
  have gl : (0 : Int) < (ln : Int) := by have := HL.out; omega
  go_wp2_with fail
  refine (formatUint10 ln bl _ (tabIs_below HT.out HS.out.2.2.1)).mono ?_
  rintro e v2 ⟨rfl, hb⟩
  have hS := HS.out.call hb
  clear hb HS
  have HS := Lib.hid hS
  clear hS
  go_wp2_with fail
  refine (writeString_any (w.heap.size + 1) (w.heap.size + 1) (Lib.byteCells []) _ _ HS.out.1 (by simp [Lib.byteCells, ByteArray.size] <;> omega) (by have := HS.out.2.2.2; omega)).mono ?_
  rintro e v3 ⟨rfl, hA, hb⟩
  rw [byteCells_app] at hA
  have hS := HS.out.wrote hA hb
  clear hA hb HS gl
  have HS := Lib.hid hS
  clear hS
  go_wp2_with fail
  refine (writeByte_any (w.heap.size + 1) (w.heap.size + 1) (Lib.byteCells ([] ++ Lib.decDigits ln)) 58 _ HS.out.1 (by simp [Lib.byteCells] <;> omega) (by have := HS.out.2.2.2; omega)).mono ?_
  rintro e v4 ⟨rfl, hA, hb⟩
  rw [byteCells_58] at hA
  have hS := HS.out.wrote hA hb
  clear hA hb HS
  have HS := Lib.hid hS
  clear hS
  have kP := HS.out.2.1.cells
  have ltP := HS.out.2.1.lt
  go_wp2_with fail
  refine (col_any o lc _ l0 l1).mono ?_
  rintro e v5 ⟨rfl, hb⟩
  rw [HCN.out]
  have hS := HS.out.call hb
  clear hb HS kP ltP
  have HS := Lib.hid hS
  clear hS
  have gc : (0 : Int) < (cn : Int) := by have := HC.out; omega
  go_wp2_with fail
  refine (formatUint10 cn bc _ (tabIs_below HT.out HS.out.2.2.1)).mono ?_
  rintro e v6 ⟨rfl, hb⟩
  have hS := HS.out.call hb
  clear hb HS
  have HS := Lib.hid hS
  clear hS
  go_wp2_with fail
  refine (writeString_any (w.heap.size + 1) (w.heap.size + 1) (Lib.byteCells (([] ++ Lib.decDigits ln) ++ [58])) _ _ HS.out.1 (by simp [Lib.byteCells, ByteArray.size] <;> omega) (by have := HS.out.2.2.2; omega)).mono ?_
  rintro e v7 ⟨rfl, hA, hb⟩
  rw [byteCells_app] at hA
  have hS := HS.out.wrote hA hb
  clear hA hb HS gc
  have HS := Lib.hid hS
  clear hS
  go_wp2_with fail
  refine (Tryd.Builder_String_any (w.heap.size + 1) (w.heap.size + 1) ((([] ++ Lib.decDigits ln) ++ [58]) ++ Lib.decDigits cn) _ HS.out.1 (by have := HS.out.2.2.2; omega)).mono ?_
  rintro e vz ⟨rfl, hb⟩
  have hB := HS.out.2.2.1.trans (hb.mono (by omega))
  clear hb HS
  go_wp2
  go_ret
  refine ⟨?_, hB⟩
  have e1 : posText ln cn = Lib.decDigits ln ++ 58 :: Lib.decDigits cn := by
    have h1 := HL.out
    have h2 := HC.out
    simp [posText, fieldL, h1, h2]
  rw [e1]
  rfl
set_option maxHeartbeats 2000000 in
set_option maxRecDepth 100000 in
theorem posString_nz (o lc : Int) (ln cn : Nat) (w : World) (ht : PowIs w) (l0 : 0 ≤ lc) (l1 : lc < 4294967296) (hln : lc / 16384 = (ln : Int)) (hcn : lc % 16384 = (cn : Int)) (hl : ln ≠ 0) (hc : cn = 0) :
    Calls Tryd.prog 11 #[P2 o lc] w fun e w' => e = .returned (.string ⟨(posText ln cn).toArray⟩) ∧ Below w.heap.size w w' := by
  have bl : ln < 18446744073709551616 := by omega
  have bc : cn < 18446744073709551616 := by omega
  have dl := dec_len ln bl
  have dc := dec_len cn bc
  have HT := Lib.hid ht
  have HLN := Lib.hid hln
  have HCN := Lib.hid hcn
  have HL := Lib.hid hl
  have HC := Lib.hid hc
  clear ht hln hcn hl hc
  go_enter Tryd.func11, Tryd.ntmps11
  go_wp2_with fail
  refine (line_any o lc _ l0 l1).mono ?_
  rintro e v1 ⟨rfl, hb⟩
  rw [HLN.out]
  have hS : StS w o lc [] v1 := by
    refine StS.call (W := (w.alloc (.cells #[.int .u32 o, .int .u32 lc] 25)).alloc (.cells #[.pointer none, .slice none 0 0] 42)) ⟨?_, (Bk.fresh _ _ _).alloc _, by go_grown, by simp⟩ hb
    have h := Lib.fresh_isBuilder 42 5 (w.alloc (.cells #[.int .u32 o, .int .u32 lc] 25))
    have hz : (w.alloc (.cells #[.int .u32 o, .int .u32 lc] 25)).heap.size = w.heap.size + 1 := by simp
    rw [hz] at h
    exact h
  have HS := Lib.hid hS
  clear hS hb
  have gl : (0 : Int) < (ln : Int) := by have := HL.out; omega
  go_wp2_with fail
  refine (formatUint10 ln bl _ (tabIs_below HT.out HS.out.2.2.1)).mono ?_
  rintro e v2 ⟨rfl, hb⟩
  have hS := HS.out.call hb
  clear hb HS
  have HS := Lib.hid hS
  clear hS
  go_wp2_with fail
  refine (writeString_any (w.heap.size + 1) (w.heap.size + 1) (Lib.byteCells []) _ _ HS.out.1 (by simp [Lib.byteCells, ByteArray.size] <;> omega) (by have := HS.out.2.2.2; omega)).mono ?_
  rintro e v3 ⟨rfl, hA, hb⟩
  rw [byteCells_app] at hA
  have hS := HS.out.wrote hA hb
  clear hA hb HS gl
  have HS := Lib.hid hS
  clear hS
  go_wp2_with fail
  refine (writeByte_any (w.heap.size + 1) (w.heap.size + 1) (Lib.byteCells ([] ++ Lib.decDigits ln)) 58 _ HS.out.1 (by simp [Lib.byteCells] <;> omega) (by have := HS.out.2.2.2; omega)).mono ?_
  rintro e v4 ⟨rfl, hA, hb⟩
  rw [byteCells_58] at hA
  have hS := HS.out.wrote hA hb
  clear hA hb HS
  have HS := Lib.hid hS
  clear hS
  have kP := HS.out.2.1.cells
  have ltP := HS.out.2.1.lt
  go_wp2_with fail
  refine (col_any o lc _ l0 l1).mono ?_
  rintro e v5 ⟨rfl, hb⟩
  rw [HCN.out]
  have hS := HS.out.call hb
  clear hb HS kP ltP
  have HS := Lib.hid hS
  clear hS
  have e0 : (cn : Int) = 0 := by have := HC.out; omega
  rw [e0]
  clear e0
  go_wp2_with fail
  refine (writeByte_any (w.heap.size + 1) (w.heap.size + 1) (Lib.byteCells (([] ++ Lib.decDigits ln) ++ [58])) 63 _ HS.out.1 (by simp [Lib.byteCells] <;> omega) (by have := HS.out.2.2.2; omega)).mono ?_
  rintro e v6 ⟨rfl, hA, hb⟩
  rw [byteCells_63] at hA
  have hS := HS.out.wrote hA hb
  clear hA hb HS
  have HS := Lib.hid hS
  clear hS
  go_wp2_with fail
  refine (Tryd.Builder_String_any (w.heap.size + 1) (w.heap.size + 1) ((([] ++ Lib.decDigits ln) ++ [58]) ++ [63]) _ HS.out.1 (by have := HS.out.2.2.2; omega)).mono ?_
  rintro e vz ⟨rfl, hb⟩
  have hB := HS.out.2.2.1.trans (hb.mono (by omega))
  clear hb HS
  go_wp2
  go_ret
  refine ⟨?_, hB⟩
  have e1 : posText ln cn = Lib.decDigits ln ++ [58, 63] := by
    have h1 := HL.out
    have h2 := HC.out
    simp [posText, fieldL, h1, h2]
  rw [e1]
  rfl
set_option maxHeartbeats 2000000 in
set_option maxRecDepth 100000 in
theorem posString_zn (o lc : Int) (ln cn : Nat) (w : World) (ht : PowIs w) (l0 : 0 ≤ lc) (l1 : lc < 4294967296) (hln : lc / 16384 = (ln : Int)) (hcn : lc % 16384 = (cn : Int)) (hl : ln = 0) (hc : cn ≠ 0) :
    Calls Tryd.prog 11 #[P2 o lc] w fun e w' => e = .returned (.string ⟨(posText ln cn).toArray⟩) ∧ Below w.heap.size w w' := by
  have bl : ln < 18446744073709551616 := by omega
  have bc : cn < 18446744073709551616 := by omega
  have dl := dec_len ln bl
  have dc := dec_len cn bc
  have HT := Lib.hid ht
  have HLN := Lib.hid hln
  have HCN := Lib.hid hcn
  have HL := Lib.hid hl
  have HC := Lib.hid hc
  clear ht hln hcn hl hc
  go_enter Tryd.func11, Tryd.ntmps11
  go_wp2_with fail
  refine (line_any o lc _ l0 l1).mono ?_
  rintro e v1 ⟨rfl, hb⟩
  rw [HLN.out]
  have hS : StS w o lc [] v1 := by
    refine StS.call (W := (w.alloc (.cells #[.int .u32 o, .int .u32 lc] 25)).alloc (.cells #[.pointer none, .slice none 0 0] 42)) ⟨?_, (Bk.fresh _ _ _).alloc _, by go_grown, by simp⟩ hb
    have h := Lib.fresh_isBuilder 42 5 (w.alloc (.cells #[.int .u32 o, .int .u32 lc] 25))
    have hz : (w.alloc (.cells #[.int .u32 o, .int .u32 lc] 25)).heap.size = w.heap.size + 1 := by simp
    rw [hz] at h
    exact h
  have HS := Lib.hid hS
  clear hS hb
  have e0 : (ln : Int) = 0 := by have := HL.out; omega
  rw [e0]
  clear e0
  go_wp2_with fail
  refine (writeByte_any (w.heap.size + 1) (w.heap.size + 1) (Lib.byteCells []) 63 _ HS.out.1 (by simp [Lib.byteCells] <;> omega) (by have := HS.out.2.2.2; omega)).mono ?_
  rintro e v2 ⟨rfl, hA, hb⟩
  rw [byteCells_63] at hA
  have hS := HS.out.wrote hA hb
  clear hA hb HS
  have HS := Lib.hid hS
  clear hS
  go_wp2_with fail
  refine (writeByte_any (w.heap.size + 1) (w.heap.size + 1) (Lib.byteCells ([] ++ [63])) 58 _ HS.out.1 (by simp [Lib.byteCells] <;> omega) (by have := HS.out.2.2.2; omega)).mono ?_
  rintro e v3 ⟨rfl, hA, hb⟩
  rw [byteCells_58] at hA
  have hS := HS.out.wrote hA hb
  clear hA hb HS
  have HS := Lib.hid hS
  clear hS
  have kP := HS.out.2.1.cells
  have ltP := HS.out.2.1.lt
  go_wp2_with fail
  refine (col_any o lc _ l0 l1).mono ?_
  rintro e v4 ⟨rfl, hb⟩
  rw [HCN.out]
  have hS := HS.out.call hb
  clear hb HS kP ltP
  have HS := Lib.hid hS
  clear hS
  have gc : (0 : Int) < (cn : Int) := by have := HC.out; omega
  go_wp2_with fail
  refine (formatUint10 cn bc _ (tabIs_below HT.out HS.out.2.2.1)).mono ?_
  rintro e v5 ⟨rfl, hb⟩
  have hS := HS.out.call hb
  clear hb HS
  have HS := Lib.hid hS
  clear hS
  go_wp2_with fail
  refine (writeString_any (w.heap.size + 1) (w.heap.size + 1) (Lib.byteCells (([] ++ [63]) ++ [58])) _ _ HS.out.1 (by simp [Lib.byteCells, ByteArray.size] <;> omega) (by have := HS.out.2.2.2; omega)).mono ?_
  rintro e v6 ⟨rfl, hA, hb⟩
  rw [byteCells_app] at hA
  have hS := HS.out.wrote hA hb
  clear hA hb HS gc
  have HS := Lib.hid hS
  clear hS
  go_wp2_with fail
  refine (Tryd.Builder_String_any (w.heap.size + 1) (w.heap.size + 1) ((([] ++ [63]) ++ [58]) ++ Lib.decDigits cn) _ HS.out.1 (by have := HS.out.2.2.2; omega)).mono ?_
  rintro e vz ⟨rfl, hb⟩
  have hB := HS.out.2.2.1.trans (hb.mono (by omega))
  clear hb HS
  go_wp2
  go_ret
  refine ⟨?_, hB⟩
  have e1 : posText ln cn = 63 :: 58 :: Lib.decDigits cn := by
    have h1 := HL.out
    have h2 := HC.out
    simp [posText, fieldL, h1, h2]
  rw [e1]
  rfl
set_option maxHeartbeats 2000000 in
set_option maxRecDepth 100000 in
theorem posString_zz (o lc : Int) (ln cn : Nat) (w : World) (ht : PowIs w) (l0 : 0 ≤ lc) (l1 : lc < 4294967296) (hln : lc / 16384 = (ln : Int)) (hcn : lc % 16384 = (cn : Int)) (hl : ln = 0) (hc : cn = 0) :
    Calls Tryd.prog 11 #[P2 o lc] w fun e w' => e = .returned (.string ⟨(posText ln cn).toArray⟩) ∧ Below w.heap.size w w' := by
  have bl : ln < 18446744073709551616 := by omega
  have bc : cn < 18446744073709551616 := by omega
  have dl := dec_len ln bl
  have dc := dec_len cn bc
  have HT := Lib.hid ht
  have HLN := Lib.hid hln
  have HCN := Lib.hid hcn
  have HL := Lib.hid hl
  have HC := Lib.hid hc
  clear ht hln hcn hl hc
  go_enter Tryd.func11, Tryd.ntmps11
  go_wp2_with fail
  refine (line_any o lc _ l0 l1).mono ?_
  rintro e v1 ⟨rfl, hb⟩
  rw [HLN.out]
  have hS : StS w o lc [] v1 := by
    refine StS.call (W := (w.alloc (.cells #[.int .u32 o, .int .u32 lc] 25)).alloc (.cells #[.pointer none, .slice none 0 0] 42)) ⟨?_, (Bk.fresh _ _ _).alloc _, by go_grown, by simp⟩ hb
    have h := Lib.fresh_isBuilder 42 5 (w.alloc (.cells #[.int .u32 o, .int .u32 lc] 25))
    have hz : (w.alloc (.cells #[.int .u32 o, .int .u32 lc] 25)).heap.size = w.heap.size + 1 := by simp
    rw [hz] at h
    exact h
  have HS := Lib.hid hS
  clear hS hb
  have e0 : (ln : Int) = 0 := by have := HL.out; omega
  rw [e0]
  clear e0
  go_wp2_with fail
  refine (writeByte_any (w.heap.size + 1) (w.heap.size + 1) (Lib.byteCells []) 63 _ HS.out.1 (by simp [Lib.byteCells] <;> omega) (by have := HS.out.2.2.2; omega)).mono ?_
  rintro e v2 ⟨rfl, hA, hb⟩
  rw [byteCells_63] at hA
  have hS := HS.out.wrote hA hb
  clear hA hb HS
  have HS := Lib.hid hS
  clear hS
  go_wp2_with fail
  refine (writeByte_any (w.heap.size + 1) (w.heap.size + 1) (Lib.byteCells ([] ++ [63])) 58 _ HS.out.1 (by simp [Lib.byteCells] <;> omega) (by have := HS.out.2.2.2; omega)).mono ?_
  rintro e v3 ⟨rfl, hA, hb⟩
  rw [byteCells_58] at hA
  have hS := HS.out.wrote hA hb
  clear hA hb HS
  have HS := Lib.hid hS
  clear hS
  have kP := HS.out.2.1.cells
  have ltP := HS.out.2.1.lt
  go_wp2_with fail
  refine (col_any o lc _ l0 l1).mono ?_
  rintro e v4 ⟨rfl, hb⟩
  rw [HCN.out]
  have hS := HS.out.call hb
  clear hb HS kP ltP
  have HS := Lib.hid hS
  clear hS
  have e0 : (cn : Int) = 0 := by have := HC.out; omega
  rw [e0]
  clear e0
  go_wp2_with fail
  refine (writeByte_any (w.heap.size + 1) (w.heap.size + 1) (Lib.byteCells (([] ++ [63]) ++ [58])) 63 _ HS.out.1 (by simp [Lib.byteCells] <;> omega) (by have := HS.out.2.2.2; omega)).mono ?_
  rintro e v5 ⟨rfl, hA, hb⟩
  rw [byteCells_63] at hA
  have hS := HS.out.wrote hA hb
  clear hA hb HS
  have HS := Lib.hid hS
  clear hS
  go_wp2_with fail
  refine (Tryd.Builder_String_any (w.heap.size + 1) (w.heap.size + 1) ((([] ++ [63]) ++ [58]) ++ [63]) _ HS.out.1 (by have := HS.out.2.2.2; omega)).mono ?_
  rintro e vz ⟨rfl, hb⟩
  have hB := HS.out.2.2.1.trans (hb.mono (by omega))
  clear hb HS
  go_wp2
  go_ret
  refine ⟨?_, hB⟩
  have e1 : posText ln cn = [63, 58, 63] := by
    have h1 := HL.out
    have h2 := HC.out
    simp [posText, fieldL, h1, h2]
  rw [e1]
  rfl
theorem posString_any (o lc : Int) (ln cn : Nat) (w : World) (ht : PowIs w) (l0 : 0 ≤ lc) (l1 : lc < 4294967296) (hln : lc / 16384 = (ln : Int)) (hcn : lc % 16384 = (cn : Int)) :
    Calls Tryd.prog 11 #[P2 o lc] w fun e w' => e = .returned (.string ⟨(posText ln cn).toArray⟩) ∧ Below w.heap.size w w' := by
  by_cases hl : ln = 0
  · by_cases hc : cn = 0
    · exact posString_zz o lc ln cn w ht l0 l1 hln hcn hl hc
    · exact posString_zn o lc ln cn w ht l0 l1 hln hcn hl hc
  · by_cases hc : cn = 0
    · exact posString_nz o lc ln cn w ht l0 l1 hln hcn hl hc
    · exact posString_nn o lc ln cn w ht l0 l1 hln hcn hl hc
end Go.Proofs.YtleldhnilecklaaDoor
