/- The walk of FnArrayExprSpan. -/
import Derived.Test.YtaampofbcbophaaNodes
import Derived.OpenShut
import Derived.Deep.RegionHeld3
import Derived.IntWalk
namespace Go.Proofs.Ytaampofbcbophaa
open Go.RowKit
set_option maxHeartbeats 2000000 in
theorem walkFnArrayExprSpan (a0 : Int) (a1 : Int) (a2 : Int) (a3 : Int) (w0 : (Lit.int .u32 a0).wf = true) (w1 : (Lit.int .u32 a1).wf = true) (w2 : (Lit.int .u32 a2).wf = true) (w3 : (Lit.int .u32 a3).wf = true) (w : World) :
    Calls Try.prog 3 #[.int .u32 a0, .int .u32 a1, .int .u32 a2, .int .u32 a3] w fun e w' => e = .returned (.bool true) ∧ Below w.heap.size w w' := by
  have b0 := bounds_u32 w0
  have b1 := bounds_u32 w1
  have b2 := bounds_u32 w2
  have b3 := bounds_u32 w3
  clear w0 w1 w2 w3
  by_cases h1 : 4294967284 < a0
  · go_enter Try.func3, Try.ntmps3
    go_wp2_with fail
    go_ret
    exact ⟨rfl, Below.refl _ _⟩
  have h1' : decide (4294967284 < a0) = false := by simpa using h1
  by_cases h2 : 4294967284 ≤ a2
  · go_enter Try.func3, Try.ntmps3
    go_wp2_with fail
    go_ret
    exact ⟨rfl, Below.refl _ _⟩
  have h2' : decide (4294967284 ≤ a2) = false := by simpa using h2
  by_cases h3 : a3 = 0
  · subst h3
    go_enter Try.func3, Try.ntmps3
    go_wp2_with fail
    go_ret
    exact ⟨rfl, Below.refl _ _⟩
  have h3' : (a3 == 0) = false := by simpa using h3
  by_cases h4 : a2 < a0
  · clear h3
    go_enter Try.func3, Try.ntmps3
    go_wp2_with fail
    go_ret
    exact ⟨rfl, Below.refl _ _⟩
  have h4' : decide (a2 < a0) = false := by simpa using h4
  have hv : vld a2 a3 = true := vld_mk (by omega) h3
  have e1 : addO a2 a3 1 = a2 + 1 := by unfold addO; rw [if_pos hv]; omega
  have q1 : offv a0 = a0 := by unfold offv; rw [if_neg (by omega)]
  have q2 : offv (addO a2 a3 1) = a2 + 1 := by rw [e1]; unfold offv; rw [if_neg (by omega)]
  have q3 : decide (a2 + 1 ≤ a0) = false := by simp; omega
  have q4 : IntKind.u64.wrap (a2 + 1 - a0) = a2 + 1 - a0 := IntWalk.u64_in _ (by omega)
  have q5 : IntKind.u32.wrap (a2 - a0) = a2 - a0 := IntWalk.u32_in _ (by omega)
  have q8 : IntKind.u64.wrap (a2 - a0) = a2 - a0 := IntWalk.u64_in _ (by omega)
  have q6 : IntKind.u64.wrap (a2 - a0 + 1) = a2 - a0 + 1 := IntWalk.u64_in _ (by omega)
  have q7 : (a2 + 1 - a0 == a2 - a0 + 1) = true := by simp; omega
  have bO := addO_bd a2 a3 1 (by omega) (by omega)
  have Q1 := Lib.hid q1
  have Q2 := Lib.hid q2
  have Q3 := Lib.hid q3
  have Q4 := Lib.hid q4
  have Q5 := Lib.hid q5
  have Q6 := Lib.hid q6
  have Q7 := Lib.hid q7
  have Q8 := Lib.hid q8
  clear q1 q2 q3 q4 q5 q6 q7 q8 e1 hv h3
  go_enter Try.func3, Try.ntmps3
  go_wp2_with (go_at_call 14; go_in)
  refine (ArrayExpr_Pos_any _ a0 a1 _ (by simp [go_sem]) (by simp [go_sem])).mono ?_
  rintro e w1 ⟨rfl, hb1⟩
  obtain ⟨hc1, hf1, hz1, hB1, hs1⟩ := bcell (w := w) (by go_grown) hb1
  go_wp2_with fail
  refine (ArrayExpr_End_any _ a2 a3 _ (by rw [World.cell?_alloc_lt _ _ _ (by simp at hz1 ⊢; omega)]; exact keepc hb1 (by simp [go_sem])) (by rw [World.cell?_alloc_lt _ _ _ (by simp at hz1 ⊢; omega)]; exact keepc hb1 (by simp [go_sem])) (by omega) (by omega) (by omega) (by omega)).mono ?_
  rintro e w2 ⟨rfl, hb2⟩
  obtain ⟨hc2, hf2, hz2, hB2, hs2⟩ := bcell (w := w) (by go_grown) hb2
  go_wp2_with fail
  have hz2' : w1.heap.size < w2.heap.size := by simp at hz2; omega
  have f0 : (w2.alloc (Obj.cells #[.int .u32 (addO a2 a3 1), .int .u32 (addL a2 a3 1)] 24)).cell? ⟨w1.heap.size, 0, none⟩ = some (.int .u32 a0) := by simp [go_sem, hc2, hz2']
  have f1 : (w2.alloc (Obj.cells #[.int .u32 (addO a2 a3 1), .int .u32 (addL a2 a3 1)] 24)).cell? ⟨w1.heap.size, 1, none⟩ = some (.int .u32 a1) := by simp [go_sem, hc2, hz2']
  have f2 : (w2.alloc (Obj.cells #[.int .u32 (addO a2 a3 1), .int .u32 (addL a2 a3 1)] 24)).cell? ⟨w2.heap.size, 0, none⟩ = some (.int .u32 (addO a2 a3 1)) := by simp [go_sem]
  have f3 : (w2.alloc (Obj.cells #[.int .u32 (addO a2 a3 1), .int .u32 (addL a2 a3 1)] 24)).cell? ⟨w2.heap.size, 1, none⟩ = some (.int .u32 (addL a2 a3 1)) := by simp [go_sem]
  have fB : Below w.heap.size w (w2.alloc (Obj.cells #[.int .u32 (addO a2 a3 1), .int .u32 (addL a2 a3 1)] 24)) := by go_grown
  clear hb1 hb2 hc1 hc2 hf1 hf2 hz1 hz2 hz2' hB1 hB2 hs1 hs2
  generalize (w2.alloc (Obj.cells #[.int .u32 (addO a2 a3 1), .int .u32 (addL a2 a3 1)] 24)) = W at f0 f1 f2 f3 fB ⊢
  generalize w1.heap.size = bp at f0 f1 f2 f3 fB ⊢
  generalize w2.heap.size = be at f0 f1 f2 f3 fB ⊢
  have q1 := Q1.out
  have q2 := Q2.out
  have q3 := Q3.out
  go_region_held3 (fun W => W.cell? ⟨bp, 0, none⟩ = some (.int .u32 a0) ∧ W.cell? ⟨bp, 1, none⟩ = some (.int .u32 a1) ∧ W.cell? ⟨be, 0, none⟩ = some (.int .u32 (addO a2 a3 1)) ∧ W.cell? ⟨be, 1, none⟩ = some (.int .u32 (addL a2 a3 1)) ∧ Below w.heap.size w W) (first | exact ⟨f0, f1, f2, f3, fB.drew⟩ | exact keep22 (by assumption) (by assumption)) (first | (go_at_call 17; refine (offset_any _ _ _ (by omega) (by omega)).mono ?_; rintro e w' ⟨rfl, hb⟩))
  all_goals
    rename_i hH
    obtain ⟨g0, g1, g2, g3, gB⟩ := hH
    go_wp2_with fail
    have q4 := Q4.out
    have q5 := Q5.out
    have q6 := Q6.out
    have q7 := Q7.out
    have q8 := Q8.out
    go_region_held3 (fun W => W.cell? ⟨bp, 0, none⟩ = some (.int .u32 a0) ∧ W.cell? ⟨bp, 1, none⟩ = some (.int .u32 a1) ∧ W.cell? ⟨be, 0, none⟩ = some (.int .u32 (addO a2 a3 1)) ∧ W.cell? ⟨be, 1, none⟩ = some (.int .u32 (addL a2 a3 1)) ∧ Below w.heap.size w W) (first | exact ⟨g0, g1, g2, g3, gB.drew⟩ | exact keep22 (by assumption) (by assumption)) (first | (go_at_call 17; refine (offset_any _ _ _ (by omega) (by omega)).mono ?_; rintro e w' ⟨rfl, hb⟩))
    all_goals
      rename_i hH
      have hBB := hH.2.2.2.2
      clear hH
      go_wp2
      go_ret
      exact ⟨rfl, hBB⟩
end Go.Proofs.Ytaampofbcbophaa
