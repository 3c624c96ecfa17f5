/- The walk of FnArithmOpsRefusesWordAndSpaceRunes. -/
import Derived.Test.YtleldhnilecklaaRows
import Derived.WalkKit
import Derived.WalkLawsBesides
import Derived.Handy
import Derived.OpenShut
namespace Go.Proofs.Ytleldhnilecklaa
open Go.RowKit
def IsOp (r : Int) : Prop := r = 43 ∨ r = 45 ∨ r = 33 ∨ r = 126 ∨ r = 42 ∨ r = 47 ∨ r = 37 ∨ r = 40 ∨ r = 41 ∨ r = 94 ∨ r = 60 ∨ r = 62 ∨ r = 58 ∨ r = 61 ∨ r = 44 ∨ r = 63 ∨ r = 124 ∨ r = 38 ∨ r = 91 ∨ r = 93 ∨ r = 35 ∨ r = 46
theorem arithmOps_t (r : Int) (w : World) (h : IsOp r) :
    Calls Try.prog 33 #[.int .i32 r] w fun e w' => e = .returned (.bool true) ∧ w = w' := by
  unfold IsOp at h
  rcases h with rfl | rfl | rfl | rfl | rfl | rfl | rfl | rfl | rfl | rfl | rfl | rfl | rfl | rfl | rfl | rfl | rfl | rfl | rfl | rfl | rfl | rfl
  all_goals
    go_enter Try.func33, Try.ntmps33
    go_wp2
    go_ret
    exact ⟨rfl, rfl⟩
theorem arithmOps_f (r : Int) (w : World) (h : ¬ IsOp r) :
    Calls Try.prog 33 #[.int .i32 r] w fun e w' => e = .returned (.bool false) ∧ w = w' := by
  unfold IsOp at h
  have k43 : (r == 43) = false := by simp; omega
  have k45 : (r == 45) = false := by simp; omega
  have k33 : (r == 33) = false := by simp; omega
  have k126 : (r == 126) = false := by simp; omega
  have k42 : (r == 42) = false := by simp; omega
  have k47 : (r == 47) = false := by simp; omega
  have k37 : (r == 37) = false := by simp; omega
  have k40 : (r == 40) = false := by simp; omega
  have k41 : (r == 41) = false := by simp; omega
  have k94 : (r == 94) = false := by simp; omega
  have k60 : (r == 60) = false := by simp; omega
  have k62 : (r == 62) = false := by simp; omega
  have k58 : (r == 58) = false := by simp; omega
  have k61 : (r == 61) = false := by simp; omega
  have k44 : (r == 44) = false := by simp; omega
  have k63 : (r == 63) = false := by simp; omega
  have k124 : (r == 124) = false := by simp; omega
  have k38 : (r == 38) = false := by simp; omega
  have k91 : (r == 91) = false := by simp; omega
  have k93 : (r == 93) = false := by simp; omega
  have k35 : (r == 35) = false := by simp; omega
  have k46 : (r == 46) = false := by simp; omega
  clear h
  go_enter Try.func33, Try.ntmps33
  go_wp2
  go_ret
  exact ⟨rfl, rfl⟩
theorem isWordOrQuoteRune_f (r : Int) (w : World) (h : IsOp r) :
    Calls Try.prog 27 #[.int .i32 r] w fun e w' => e = .returned (.bool false) ∧ w = w' := by
  unfold IsOp at h
  rcases h with rfl | rfl | rfl | rfl | rfl | rfl | rfl | rfl | rfl | rfl | rfl | rfl | rfl | rfl | rfl | rfl | rfl | rfl | rfl | rfl | rfl | rfl
  all_goals
    go_enter Try.func27, Try.ntmps27
    go_wp2
    go_ret
    exact ⟨rfl, rfl⟩
theorem walkFnArithmOpsRefusesWordAndSpaceRunes (a0 : Int) (_w0 : (Lit.int .i32 a0).wf = true) (w : World) :
    Calls Try.prog 7 #[.int .i32 a0] w fun e w' => e = .returned (.bool true) ∧ Below w.heap.size w w' := by

  by_cases h : IsOp a0
  · have h1 : 33 ≤ a0 ∧ a0 ≤ 126 := by unfold IsOp at h; omega
    go_enter Try.func7, Try.ntmps7
    go_wp2_with (first | (go_at_call 33; refine (arithmOps_t _ _ h).mono ?_; rintro e w' ⟨rfl, rfl⟩) | (go_at_call 27; refine (isWordOrQuoteRune_f _ _ h).mono ?_; rintro e w' ⟨rfl, rfl⟩) | (go_at_call 26; go_in))
    go_ret
    exact ⟨rfl, Below.refl _ _⟩
  · go_enter Try.func7, Try.ntmps7
    go_wp2_with (first | (go_at_call 33; refine (arithmOps_f _ _ h).mono ?_; rintro e w' ⟨rfl, rfl⟩) | (go_at_call 26; go_in))
    go_ret
    exact ⟨rfl, Below.refl _ _⟩
end Go.Proofs.Ytleldhnilecklaa
