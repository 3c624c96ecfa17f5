/- The walk of FnAssignEndSpansItsText. -/
import Derived.Test.YtaampofbcbophaaLAsnEnd
import Derived.Test.YtaampofbcbophaaLAsnEndE
namespace Go.Proofs.Ytaampofbcbophaa
open Go.RowKit
theorem ba_empty {s : ByteArray} (h : s.size = 0) : s = ByteArray.empty := by
  rcases s with ⟨d⟩
  have : d = #[] := Array.eq_empty_of_size_eq_zero h
  subst this
  rfl
theorem walkFnAssignEndSpansItsText (a0 : Int) (a1 : Int) (a2 : Int) (a3 : ByteArray) (a4 : ByteArray) (a5 : ByteArray) (a6 : Bool) (a7 : Bool) (a8 : Bool) (a9 : Int) (w0 : (Lit.int .u32 a0).wf = true) (w1 : (Lit.int .u32 a1).wf = true) (w2 : (Lit.int .u32 a2).wf = true) (w3 : a3.size ≤ maxLen) (w4 : a4.size ≤ maxLen) (w5 : a5.size ≤ maxLen) (w9 : (Lit.int .i64 a9).wf = true) (w : World) :
    Calls Try.prog 4 #[.int .u32 a0, .int .u32 a1, .int .u32 a2, .string a3, .string a4, .string a5, .bool a6, .bool a7, .bool a8, .int .i64 a9] w fun e w' => e = .returned (.bool true) ∧ Below w.heap.size w w' := by
  have b0 := bounds_u32 w0
  have b1 := bounds_u32 w1
  have b2 := bounds_u32 w2
  have b9 := bounds_i64 w9
  unfold maxLen at w3 w4 w5
  by_cases hf : fits132 a0 a1 a2 a9 a3.size a4.size a5.size a6 a7 a8
  case neg => exact asnEarly a0 a1 a2 a3 a4 a5 a6 a7 a8 a9 w (by omega) (by omega) (by omega) (by omega) w3 w4 w5 hf
  obtain ⟨f1, f2, f3, f4, f5, f6, f7, f8, f9, f10, f11, f12, f13, f14, f15⟩ := hf
  cases a8 with
  | true =>
    obtain ⟨rfl, h5⟩ := f14 rfl
    obtain rfl := ba_empty h5
    have h7 : a7 = false := by cases a7 with
      | false => rfl
      | true => exact absurd (f13 rfl).1 (by simp)
    subst h7
    simp at f15
    exact asnEnd_arr a0 a1 a2 a3 a4 a9 w (by omega) (by omega) (by omega) (by omega) (by omega) f11 f1 f2 f4 f5 (by omega)
  | false =>
    by_cases h5 : a5.size = 0
    · obtain rfl := ba_empty h5
      cases a6 with
      | true =>
        cases a7 with
        | true => simp at f15; exact asnEnd_idxn a0 a1 a2 a3 a4 a9 w (by omega) (by omega) (by omega) (by omega) (by omega) f11 f1 f2 f4 f5 (f12 rfl) (by omega)
        | false => simp at f15; exact asnEnd_idx a0 a1 a2 a3 a4 a9 w (by omega) (by omega) (by omega) (by omega) (by omega) f11 f1 f2 f4 f5 (f12 rfl) (by omega)
      | false =>
        cases a7 with
        | true => simp at f15; exact asnEnd_naked a0 a1 a2 a3 a4 a9 w (by omega) (by omega) (by omega) (by omega) (by omega) f11 f1 f2 f4 f5 (by omega)
        | false => simp at f15; exact asnEnd_name a0 a1 a2 a3 a4 a9 w (by omega) (by omega) (by omega) (by omega) (by omega) f11 f1 f2 f4 f5 (by omega)
    · have h7 : a7 = false := by cases a7 with
        | false => rfl
        | true => exact absurd (f13 rfl).2 h5
      subst h7
      cases a6 with
      | true => simp at f15; exact asnEnd_ival a0 a1 a2 a3 a4 a5 a9 w (by omega) (by omega) (by omega) (by omega) (by omega) f11 f1 f2 f4 f5 (by omega) f3 (f12 rfl) (by omega)
      | false => simp at f15; exact asnEnd_val a0 a1 a2 a3 a4 a5 a9 w (by omega) (by omega) (by omega) (by omega) (by omega) f11 f1 f2 f4 f5 (by omega) f3 (by omega)
end Go.Proofs.Ytaampofbcbophaa
