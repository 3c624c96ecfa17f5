/- The walk of FnAssignSpanIsShiftInvariant. -/
import Derived.Test.YtaampofbcbophaaLShiftE
import Derived.Test.YtaampofbcbophaaLShiftFF
import Derived.Test.YtaampofbcbophaaLShiftFT
import Derived.Test.YtaampofbcbophaaLShiftTF
import Derived.Test.YtaampofbcbophaaLShiftTT
namespace Go.Proofs.Ytaampofbcbophaa
open Go.RowKit
theorem bldAny (a0 a1 a2 t eo ec : Int) (s3 s4 s5 : ByteArray) (hi nk : Bool) (w : World) (b0 : 0 ≤ a0) (b0' : a0 ≤ 1073758208) (b1 : 1 ≤ a1) (b1' : a1 ≤ 262143) (b2 : 1 ≤ a2) (m3 : s3.size ≤ 4096) (m4 : s4.size ≤ 4096) (m5 : s5.size ≤ 4096) (f5 : nk = true → s5.size = 0)
    (ht : t = (s3.size : Int) + (s5.size : Int) + (if hi then 2 + (s4.size : Int) else 0) + (if nk then 0 else 1)) (hs : a2 + t ≤ 16383) (he : eo = a0 + t) (hc : ec = a2 + t) :
    Calls Try.prog 72 #[.int .u32 a0, .int .u32 a1, .int .u32 a2, .string s3, .string s4, .string s5, .bool hi, .bool nk] w (Built132 w a0 (a1 * 16384 + a2) eo (a1 * 16384 + ec)) := by
  by_cases h5 : s5.size = 0
  · obtain rfl := ba_empty h5
    cases hi <;> cases nk <;> simp at ht
    · exact bld_name a0 a1 a2 eo ec s3 s4 w b0 b0' b1 b1' b2 m3 m4 (by omega) (by omega) (by omega)
    · exact bld_naked a0 a1 a2 eo ec s3 s4 w b0 b0' b1 b1' b2 m3 m4 (by omega) (by omega) (by omega)
    · exact bld_idx a0 a1 a2 eo ec s3 s4 w b0 b0' b1 b1' b2 m3 m4 (by omega) (by omega) (by omega)
    · exact bld_idxn a0 a1 a2 eo ec s3 s4 w b0 b0' b1 b1' b2 m3 m4 (by omega) (by omega) (by omega)
  · cases nk with
    | true => exact absurd (f5 rfl) h5
    | false =>
      cases hi <;> simp at ht
      · exact bld_val a0 a1 a2 eo ec s3 s4 s5 w b0 b0' b1 b1' b2 m3 m4 (by omega) m5 (by omega) (by omega) (by omega)
      · exact bld_ival a0 a1 a2 eo ec s3 s4 s5 w b0 b0' b1 b1' b2 m3 m4 (by omega) m5 (by omega) (by omega) (by omega)
theorem walkFnAssignSpanIsShiftInvariant (a0 : Int) (a1 : Int) (a2 : Int) (a3 : Int) (a4 : ByteArray) (a5 : ByteArray) (a6 : ByteArray) (a7 : Bool) (a8 : Bool) (w0 : (Lit.int .u32 a0).wf = true) (w1 : (Lit.int .u32 a1).wf = true) (w2 : (Lit.int .u32 a2).wf = true) (w3 : (Lit.int .u32 a3).wf = true) (w4 : a4.size ≤ maxLen) (w5 : a5.size ≤ maxLen) (w6 : a6.size ≤ maxLen) (w : World) :
    Calls Try.prog 12 #[.int .u32 a0, .int .u32 a1, .int .u32 a2, .int .u32 a3, .string a4, .string a5, .string a6, .bool a7, .bool a8] w fun e w' => e = .returned (.bool true) ∧ Below w.heap.size w w' := by
  have b0 := bounds_u32 w0
  have b1 := bounds_u32 w1
  have b2 := bounds_u32 w2
  have b3 := bounds_u32 w3
  unfold maxLen at w4 w5 w6
  by_cases hf : fits132s a0 a1 a2 a3 a4.size a5.size a6.size a7 a8
  case neg => exact shiftEarly a0 a1 a2 a3 a4 a5 a6 a7 a8 w (by omega) (by omega) (by omega) (by omega) w4 w5 w6 hf
  obtain ⟨f1, f2, f3, f4, f5, f6, f7, f8, f9, f10, f11, f12, f13⟩ := hf
  obtain ⟨t, ht⟩ : ∃ t, t = (a4.size : Int) + (a6.size : Int) + (if a7 then 2 + (a5.size : Int) else 0) + (if a8 then 0 else 1) := ⟨_, rfl⟩
  have t0 : 0 ≤ t := by rw [ht]; cases a7 <;> cases a8 <;> simp <;> omega
  have hs : a2 + a3 + t ≤ 16383 := by rw [ht]; exact f13
  have c1 := fun W => bldAny a0 a1 a2 t (a0 + t) (a2 + t) a4 a5 a6 a7 a8 W (by omega) (by omega) (by omega) (by omega) (by omega) f1 f2 f3 f12 ht (by omega) rfl rfl
  have c2 := fun W => bldAny (a0 + a3) a1 (a2 + a3) t (a0 + t + a3) (a2 + t + a3) a4 a5 a6 a7 a8 W (by omega) (by omega) (by omega) (by omega) (by omega) f1 f2 f3 f12 ht (by omega) (by omega) (by omega)
  cases a7 <;> cases a8
  · exact shiftMain_ff a0 a1 a2 a3 t a4 a5 a6 w (by omega) (by omega) (by omega) (by omega) (by omega) (by omega) (by omega) t0 f1 f2 f3 f10 f11 f12 ht hs c1 c2
  · exact shiftMain_ft a0 a1 a2 a3 t a4 a5 a6 w (by omega) (by omega) (by omega) (by omega) (by omega) (by omega) (by omega) t0 f1 f2 f3 f10 f11 f12 ht hs c1 c2
  · exact shiftMain_tf a0 a1 a2 a3 t a4 a5 a6 w (by omega) (by omega) (by omega) (by omega) (by omega) (by omega) (by omega) t0 f1 f2 f3 f10 f11 f12 ht hs c1 c2
  · exact shiftMain_tt a0 a1 a2 a3 t a4 a5 a6 w (by omega) (by omega) (by omega) (by omega) (by omega) (by omega) (by omega) t0 f1 f2 f3 f10 f11 f12 ht hs c1 c2
end Go.Proofs.Ytaampofbcbophaa
