/- The walk of FnTestClauseEndAfterPos. -/
import Derived.Test.YtaampofbcbophaaNodes
import Derived.Test.YtaampofbcbophaaValid
import Derived.OpenShut
namespace Go.Proofs.Ytaampofbcbophaa
open Go.RowKit
set_option maxHeartbeats 2000000 in
theorem walkFnTestClauseEndAfterPos (a0 : Int) (a1 : Int) (a2 : Int) (a3 : Int) (w0 : (Lit.int .u32 a0).wf = true) (w1 : (Lit.int .u32 a1).wf = true) (w2 : (Lit.int .u32 a2).wf = true) (w3 : (Lit.int .u32 a3).wf = true) (w : World) :
    Calls Try.prog 5 #[.int .u32 a0, .int .u32 a1, .int .u32 a2, .int .u32 a3] w fun e w' => e = .returned (.bool true) ∧ Below w.heap.size w w' := by
  have b0 := bounds_u32 w0
  have b1 := bounds_u32 w1
  have b2 := bounds_u32 w2
  have b3 := bounds_u32 w3
  clear w0 w1 w2 w3
  cases hv1 : vld a0 a1 with
  | false =>
    go_enter Try.func5, Try.ntmps5
    go_wp2_with (go_at_call 24; refine (n010_108_zzValid_any _ _ _).mono ?_; rintro e w' ⟨rfl, rfl⟩)
    go_ret
    exact ⟨rfl, Below.refl _ _⟩
  | true =>
  cases hv2 : vld a2 a3 with
  | false =>
    go_enter Try.func5, Try.ntmps5
    go_wp2_with (go_at_call 24; refine (n010_108_zzValid_any _ _ _).mono ?_; rintro e w' ⟨rfl, rfl⟩)
    go_ret
    exact ⟨rfl, Below.refl _ _⟩
  | true =>
  by_cases h1 : a2 < a0
  · go_enter Try.func5, Try.ntmps5
    go_wp2_with (go_at_call 24; refine (n010_108_zzValid_any _ _ _).mono ?_; rintro e w' ⟨rfl, rfl⟩)
    go_ret
    exact ⟨rfl, Below.refl _ _⟩
  have h1' : decide (a2 < a0) = false := by simpa using h1
  by_cases h2 : 4294967284 ≤ a0
  · go_enter Try.func5, Try.ntmps5
    go_wp2_with (go_at_call 24; refine (n010_108_zzValid_any _ _ _).mono ?_; rintro e w' ⟨rfl, rfl⟩)
    go_ret
    exact ⟨rfl, Below.refl _ _⟩
  have h2' : decide (4294967284 ≤ a0) = false := by simpa using h2
  by_cases h3 : a3 / 16384 = 0
  · have h3' : (a3 / 16384 == 0) = true := by simpa using h3
    clear h3
    go_enter Try.func5, Try.ntmps5
    go_wp2_with (go_at_call 24; refine (n010_108_zzValid_any _ _ _).mono ?_; rintro e w' ⟨rfl, rfl⟩)
    go_ret
    exact ⟨rfl, Below.refl _ _⟩
  have h3' : (a3 / 16384 == 0) = false := by simpa using h3
  have q1 : aft (addO a2 a3 2) (addL a2 a3 2) a0 = true := by
    have hm := vld_true hv2
    have hC := addC_bd a3 2
    have e1 : addO a2 a3 2 = min (max (a2 + 2) 0) 4294967284 := by unfold addO; rw [if_pos hv2]
    have e2 : addL a2 a3 2 = a3 - a3 % 16384 + addC a3 2 := by unfold addL; rw [if_pos hv2]
    have : vld (addO a2 a3 2) (addL a2 a3 2) = true := vld_mk (by omega) (by omega)
    simp only [aft, this, Bool.true_and, decide_eq_true_eq]; omega
  have q2 : aft a0 a1 (addO a2 a3 2) = false := by
    have e1 : addO a2 a3 2 = min (max (a2 + 2) 0) 4294967284 := by unfold addO; rw [if_pos hv2]
    simp only [aft, Bool.and_eq_false_iff, decide_eq_false_iff_not]
    right; omega
  have Q1 := Lib.hid q1
  have Q2 := Lib.hid q2
  clear q1 q2 h3
  go_enter Try.func5, Try.ntmps5
  go_wp2_with (first | (go_at_call 24; refine (n010_108_zzValid_any _ _ _).mono ?_; rintro e w' ⟨rfl, rfl⟩) | (go_at_call 25; go_in))
  refine (TestClause_Pos_any _ a0 a1 _ (by simp [go_sem]) (by simp [go_sem])).mono ?_
  rintro e w1 ⟨rfl, hb1⟩
  obtain ⟨hc1, hf1, hz1, hB1, hs1⟩ := bcell (w := w) (by go_grown) hb1
  go_wp2_with fail
  refine (TestClause_End_any _ a2 a3 _ (by rw [World.cell?_alloc_lt _ _ _ (by simp at hz1 ⊢; omega)]; exact keepc hb1 (by simp [go_sem])) (by rw [World.cell?_alloc_lt _ _ _ (by simp at hz1 ⊢; omega)]; exact keepc hb1 (by simp [go_sem])) (by omega) (by omega) (by omega) (by omega)).mono ?_
  rintro e w2 ⟨rfl, hb2⟩
  obtain ⟨hc2, hf2, hz2, hB2, hs2⟩ := bcell (w := w) (by go_grown) hb2
  have hz2' : w1.heap.size < w2.heap.size := by simp at hz2; omega
  go_wp2_with fail
  have f0 : (w2.alloc (Obj.cells #[.int .u32 (addO a2 a3 2), .int .u32 (addL a2 a3 2)] 24)).cell? ⟨w1.heap.size, 0, none⟩ = some (.int .u32 a0) := by simp [go_sem, hc2, hz2']
  have f1 : (w2.alloc (Obj.cells #[.int .u32 (addO a2 a3 2), .int .u32 (addL a2 a3 2)] 24)).cell? ⟨w1.heap.size, 1, none⟩ = some (.int .u32 a1) := by simp [go_sem, hc2, hz2']
  have f2 : (w2.alloc (Obj.cells #[.int .u32 (addO a2 a3 2), .int .u32 (addL a2 a3 2)] 24)).cell? ⟨w2.heap.size, 0, none⟩ = some (.int .u32 (addO a2 a3 2)) := by simp [go_sem]
  have f3 : (w2.alloc (Obj.cells #[.int .u32 (addO a2 a3 2), .int .u32 (addL a2 a3 2)] 24)).cell? ⟨w2.heap.size, 1, none⟩ = some (.int .u32 (addL a2 a3 2)) := by simp [go_sem]
  have fB : Below w.heap.size w (w2.alloc (Obj.cells #[.int .u32 (addO a2 a3 2), .int .u32 (addL a2 a3 2)] 24)) := by go_grown
  clear hb1 hb2 hc1 hc2 hf1 hf2 hz1 hz2 hz2' hB1 hB2 hs1 hs2
  generalize (w2.alloc (Obj.cells #[.int .u32 (addO a2 a3 2), .int .u32 (addL a2 a3 2)] 24)) = W at f0 f1 f2 f3 fB ⊢
  generalize w1.heap.size = bp at f0 f1 f2 f3 fB ⊢
  generalize w2.heap.size = be at f0 f1 f2 f3 fB ⊢
  refine (ZZposRaw_n010_108_any _ _ _).mono ?_
  rintro e w3 ⟨rfl, hb⟩
  obtain ⟨g0, g1, g2, g3, gB⟩ := keep22 ⟨f0, f1, f2, f3, fB⟩ hb
  clear f0 f1 f2 f3 fB hb
  go_wp2_with fail
  refine (after_any _ _ _ _ _).mono ?_
  rintro e w4 ⟨rfl, hb⟩
  obtain ⟨f0, f1, f2, f3, fB⟩ := keep22 ⟨g0, g1, g2, g3, gB⟩ hb
  rw [Q1.out]
  clear g0 g1 g2 g3 gB hb
  go_wp2_with fail
  refine (after_any _ _ _ _ _).mono ?_
  rintro e w5 ⟨rfl, hb⟩
  have hBB := bmore fB hb
  rw [Q2.out]
  go_wp2
  go_ret
  exact ⟨rfl, hBB⟩
end Go.Proofs.Ytaampofbcbophaa
