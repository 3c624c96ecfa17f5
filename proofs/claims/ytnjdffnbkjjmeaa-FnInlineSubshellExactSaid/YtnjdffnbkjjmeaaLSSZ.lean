/- The walk of FnInlineSubshellExact. -/
import Derived.Test.YtnjdffnbkjjmeaaLSSA
import Derived.Test.YtnjdffnbkjjmeaaLSSB
import Derived.Test.YtnjdffnbkjjmeaaLSSC
namespace Go.Proofs.Ytnjdffnbkjjmeaa
open Go.RowKit
set_option maxHeartbeats 1000000 in
set_option maxRecDepth 100000 in
theorem walkFnInlineSubshellExact (a0 a1 a2 a3 : Int) (w0 : (Lit.int .i64 a0).wf = true) (w1 : (Lit.int .i64 a1).wf = true) (w2 : (Lit.int .i64 a2).wf = true) (w3 : (Lit.int .i64 a3).wf = true) (w : World) :
    Calls Try.prog 3 #[.int .i64 a0, .int .i64 a1, .int .i64 a2, .int .i64 a3] w fun e w' => e = .returned (.bool true) ∧ Below w.heap.size w w' := by
  have b0 := bounds_i64 w0
  have b1 := bounds_i64 w1
  have b2 := bounds_i64 w2
  have b3 := bounds_i64 w3
  clear w0 w1 w2 w3
  by_cases h : 0 ≤ a0 ∧ a0 ≤ 65536 ∧ 0 ≤ a3 ∧ a3 ≤ 65536 ∧ 0 ≤ a2 ∧ a2 ≤ 4
  case neg =>
    have H := Lib.hid h
    clear h
    go_enter Try.func3, Try.ntmps3
    go_wp2_with fail
    all_goals (first | (go_ret; exact ⟨rfl, Below.refl _ _⟩) | (exfalso; exact H.out ⟨by omega, by omega, by omega, by omega, by omega, by omega⟩))
  obtain ⟨h1, h2, h3, h4, h5, h6⟩ := h
  obtain ⟨D, rfl⟩ : ∃ n : Nat, a0 = (n : Int) := ⟨a0.toNat, by omega⟩
  obtain ⟨m, rfl⟩ : ∃ n : Nat, a3 = (n : Int) := ⟨a3.toNat, by omega⟩
  obtain ⟨kind, rfl⟩ : ∃ n : Nat, a2 = (n : Int) := ⟨a2.toNat, by omega⟩
  by_cases g1 : (0 : Int) ≤ a1
  · by_cases g2 : a1 < (D : Int)
    · obtain ⟨s, rfl⟩ : ∃ n : Nat, a1 = (n : Int) := ⟨a1.toNat, by omega⟩
      exact law_ssA D m kind s (by omega) (by omega) (by omega) (by omega) w
    · exact law_ssC D m kind a1 (by omega) (by omega) (by omega) ⟨g1, g2⟩ w
  · exact law_ssB D m kind a1 (by omega) (by omega) (by omega) g1 w
end Go.Proofs.Ytnjdffnbkjjmeaa
