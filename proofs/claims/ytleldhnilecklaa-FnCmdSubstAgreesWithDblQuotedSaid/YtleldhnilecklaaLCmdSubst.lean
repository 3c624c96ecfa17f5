/- The walk of FnCmdSubstAgreesWithDblQuoted. -/
import Derived.Test.YtleldhnilecklaaNodes
import Derived.OpenShut
namespace Go.Proofs.Ytleldhnilecklaa
open Go.RowKit
theorem walkFnCmdSubstAgreesWithDblQuoted (a0 : Int) (a1 : Int) (a2 : Int) (a3 : Int) (a4 : Bool) (a5 : Bool) (a6 : Bool) (a7 : Bool) (w0 : (Lit.int .u32 a0).wf = true) (w1 : (Lit.int .u32 a1).wf = true) (w2 : (Lit.int .u32 a2).wf = true) (w3 : (Lit.int .u32 a3).wf = true) (w : World) :
    Calls Try.prog 4 #[.int .u32 a0, .int .u32 a1, .int .u32 a2, .int .u32 a3, .bool a4, .bool a5, .bool a6, .bool a7] w fun e w' => e = .returned (.bool true) ∧ Below w.heap.size w w' := by
  have b0 := bounds_u32 w0
  have b1 := bounds_u32 w1
  have b2 := bounds_u32 w2
  have b3 := bounds_u32 w3
  clear w0 w1 w2 w3
  go_enter Try.func4, Try.ntmps4
  go_wp2_with (go_at_call 12; go_in)
  refine (CmdSubst_Pos_any _ a0 a1 _ (by simp [go_sem]) (by simp [go_sem])).mono ?_
  rintro e w1 ⟨rfl, hb1⟩
  go_wp2_with fail
  refine (DblQuoted_Pos_any _ a0 a1 _ (keepc hb1 (by simp [go_sem])) (keepc hb1 (by simp [go_sem]))).mono ?_
  rintro e w2 ⟨rfl, hb2⟩
  have B2 := bmore (w := w) (bmore (w := w) (by go_grown) hb1) hb2
  go_wp2_with fail
  refine (CmdSubst_End_any _ a2 a3 _ (keepc hb2 (keepc hb1 (by simp [go_sem]))) (keepc hb2 (keepc hb1 (by simp [go_sem]))) (by omega) (by omega) (by omega) (by omega)).mono ?_
  rintro e w3 ⟨rfl, hb3⟩
  go_wp2_with fail
  refine (DblQuoted_End_any _ a2 a3 _ (keepc hb3 (keepc hb2 (keepc hb1 (by simp [go_sem])))) (keepc hb3 (keepc hb2 (keepc hb1 (by simp [go_sem])))) (by omega) (by omega) (by omega) (by omega)).mono ?_
  rintro e w4 ⟨rfl, hb4⟩
  have B4 := bmore (bmore B2 hb3) hb4
  clear hb3 hb4 hb1 hb2 B2
  go_wp2
  go_ret
  exact ⟨rfl, B4⟩
end Go.Proofs.Ytleldhnilecklaa
