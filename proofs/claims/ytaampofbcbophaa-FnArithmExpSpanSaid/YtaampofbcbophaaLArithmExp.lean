/- The walk of FnArithmExpSpan. -/
import Derived.Test.YtaampofbcbophaaNodes
import Derived.Test.YtaampofbcbophaaValid
import Derived.OpenShut
import Derived.Deep.RegionHeld3
import Derived.IntWalk
namespace Go.Proofs.Ytaampofbcbophaa
open Go.RowKit
def brk (b : Bool) : Int := if b then 1 else 2
theorem ArithmExp_End_any (b : Nat) (o lc : Int) (k : Bool) (w : World) (h0 : w.cell? ⟨b, 2, none⟩ = some (.int .u32 o)) (h1 : w.cell? ⟨b, 3, none⟩ = some (.int .u32 lc)) (h4 : w.cell? ⟨b, 4, none⟩ = some (.bool k)) (o0 : 0 ≤ o) (o1 : o < 4294967296) (l0 : 0 ≤ lc) (l1 : lc < 4294967296) :
    Calls Try.prog 78 #[.pointer (some ⟨b, 0, none⟩)] w fun e w' => e = .returned (P2 (addO o lc (brk k)) (addL o lc (brk k))) ∧ Below w.heap.size w w' := by
  have hlt : b < w.heap.size := World.block_lt_of_cell? _ _ h0
  cases k with
  | true =>
    have e1 : brk true = 1 := rfl
    rw [e1]; clear e1
    go_enter Try.func78, Try.ntmps78
    go_wp2_with (go_at_call 79; refine (addCol_any _ _ _ _ (by omega) (by omega) (by omega) (by omega) (by omega) (by omega)).mono ?_; rintro e w1 ⟨rfl, hb⟩; obtain ⟨hc, hf, hz, hB, hs⟩ := bcell (w := w) (by go_grown) hb; clear hb)
    refine bodyPost_ret (v := P2 (addO o lc 1) (addL o lc 1)) (by simp [results, Try.results78, go_sem, hc]) rfl ⟨rfl, ?_⟩
    go_grown
  | false =>
    have e1 : brk false = 2 := rfl
    rw [e1]; clear e1
    go_enter Try.func78, Try.ntmps78
    go_wp2_with (go_at_call 79; refine (addCol_any _ _ _ _ (by omega) (by omega) (by omega) (by omega) (by omega) (by omega)).mono ?_; rintro e w1 ⟨rfl, hb⟩; obtain ⟨hc, hf, hz, hB, hs⟩ := bcell (w := w) (by go_grown) hb; clear hb)
    refine bodyPost_ret (v := P2 (addO o lc 2) (addL o lc 2)) (by simp [results, Try.results78, go_sem, hc]) rfl ⟨rfl, ?_⟩
    go_grown
set_option maxHeartbeats 4000000 in
theorem arithmExp_true (a0 : Int) (a1 : Int) (a2 : Int) (a3 : Int) (w0 : (Lit.int .u32 a0).wf = true) (w1 : (Lit.int .u32 a1).wf = true) (w2 : (Lit.int .u32 a2).wf = true) (w3 : (Lit.int .u32 a3).wf = true) (w : World) :
    Calls Try.prog 13 #[.int .u32 a0, .int .u32 a1, .int .u32 a2, .int .u32 a3, Value.bool true] w fun e w' => e = .returned (.bool true) ∧ Below w.heap.size w w' := by
  have b0 := bounds_u32 w0
  have b1 := bounds_u32 w1
  have b2 := bounds_u32 w2
  have b3 := bounds_u32 w3
  clear w0 w1 w2 w3
  cases hv1 : rch a0 a1 with
  | false =>
    go_enter Try.func13, Try.ntmps13
    go_wp2_with (first | (go_at_call 75; refine (n010_131_zzReach_any _ _ _).mono ?_; rintro e w' ⟨rfl, rfl⟩))
    go_ret
    exact ⟨rfl, Below.refl _ _⟩
  | true =>
  cases hv2 : rch a2 a3 with
  | false =>
    go_enter Try.func13, Try.ntmps13
    go_wp2_with (first | (go_at_call 75; refine (n010_131_zzReach_any _ _ _).mono ?_; rintro e w' ⟨rfl, rfl⟩))
    go_ret
    exact ⟨rfl, Below.refl _ _⟩
  | true =>
  by_cases h1 : a1 = 0
  · subst h1
    go_enter Try.func13, Try.ntmps13
    go_wp2_with (first | (go_at_call 75; refine (n010_131_zzReach_any _ _ _).mono ?_; rintro e w' ⟨rfl, rfl⟩))
    go_ret
    exact ⟨rfl, Below.refl _ _⟩
  have h1' : (a1 == 0) = false := by simpa using h1
  by_cases h2 : a3 / 16384 = 0
  · have h2' : (a3 / 16384 == 0) = true := by simpa using h2
    clear h2 h1
    go_enter Try.func13, Try.ntmps13
    go_wp2_with (first | (go_at_call 75; refine (n010_131_zzReach_any _ _ _).mono ?_; rintro e w' ⟨rfl, rfl⟩))
    go_ret
    exact ⟨rfl, Below.refl _ _⟩
  have h2' : (a3 / 16384 == 0) = false := by simpa using h2
  by_cases h3 : 4294967282 < a2
  · clear h1 h2
    go_enter Try.func13, Try.ntmps13
    go_wp2_with (first | (go_at_call 75; refine (n010_131_zzReach_any _ _ _).mono ?_; rintro e w' ⟨rfl, rfl⟩))
    go_ret
    exact ⟨rfl, Below.refl _ _⟩
  by_cases h4 : a2 < a0
  · clear h1 h2
    go_enter Try.func13, Try.ntmps13
    go_wp2_with (first | (go_at_call 75; refine (n010_131_zzReach_any _ _ _).mono ?_; rintro e w' ⟨rfl, rfl⟩))
    go_ret
    exact ⟨rfl, Below.refl _ _⟩
  have e0 : brk true = 1 := rfl
  have hv : vld a2 a3 = true := vld_mk (by omega) (by omega)
  have hC := addC_bd a3 1
  have e1 : addO a2 a3 1 = a2 + 1 := by unfold addO; rw [if_pos hv]; omega
  have e2 : addL a2 a3 1 = a3 - a3 % 16384 + addC a3 1 := by unfold addL; rw [if_pos hv]
  have q1 : aft (addO a2 a3 1) (addL a2 a3 1) a0 = true := by
    have : vld (addO a2 a3 1) (addL a2 a3 1) = true := vld_mk (by omega) (by omega)
    simp only [aft, this, Bool.true_and, decide_eq_true_eq]; omega
  have q2 : aft a0 a1 (addO a2 a3 1) = false := by
    simp only [aft, Bool.and_eq_false_iff, decide_eq_false_iff_not]
    right; omega
  have q3 : offv (addO a2 a3 1) = a2 + 1 := by rw [e1]; unfold offv; rw [if_neg (by omega)]
  have q4 : offv a0 = a0 := by unfold offv; rw [if_neg (by omega)]
  have q5 : IntKind.u64.wrap (a2 + 1 - a0) = a2 + 1 - a0 := IntWalk.u64_in _ (by omega)
  have q6 : IntKind.u32.wrap (a2 - a0) = a2 - a0 := IntWalk.u32_in _ (by omega)
  have q7 : IntKind.u64.wrap (a2 - a0 + 1) = a2 - a0 + 1 := IntWalk.u64_in _ (by omega)
  have qA : IntKind.u64.wrap (a2 - a0) = a2 - a0 := IntWalk.u64_in _ (by omega)
  have q8 : (a2 + 1 - a0 != a2 - a0 + 1) = false := by simp; omega
  have q9 : addL a2 a3 1 / 16384 = a3 / 16384 := by omega
  have bO := addO_bd a2 a3 1 (by omega) (by omega)
  have bL := addL_bd a2 a3 1 (by omega) (by omega)
  have Q1 := Lib.hid q1
  have Q2 := Lib.hid q2
  have Q3 := Lib.hid q3
  have Q4 := Lib.hid q4
  have Q5 := Lib.hid q5
  have Q6 := Lib.hid q6
  have Q7 := Lib.hid q7
  have QA := Lib.hid qA
  have Q8 := Lib.hid q8
  have Q9 := Lib.hid q9
  clear h1 h2 e1 e2 q1 q2 q3 q4 q5 q6 q7 q8 q9 qA hv hC e0
  go_enter Try.func13, Try.ntmps13
  go_wp2_with (first | (go_at_call 75; refine (n010_131_zzReach_any _ _ _).mono ?_; rintro e w' ⟨rfl, rfl⟩) | (go_at_call 76; go_in))
  refine (ArithmExp_Pos_any _ a0 a1 _ (by simp [go_sem]) (by simp [go_sem])).mono ?_
  rintro e w1 ⟨rfl, hb1⟩
  obtain ⟨hc1, hf1, hz1, hB1, hs1⟩ := bcell (w := w) (by go_grown) hb1
  have hz1' : w.heap.size + 1 + 1 + 1 + 1 < w1.heap.size := by simp at hz1; omega
  have r0 : w1.cell? ⟨w.heap.size + 1 + 1 + 1, 0, none⟩ = some (.int .u32 a2) := keepc hb1 (by simp [go_sem])
  have r1 : w1.cell? ⟨w.heap.size + 1 + 1 + 1, 1, none⟩ = some (.int .u32 a3) := keepc hb1 (by simp [go_sem])
  go_wp2_with fail
  refine (ArithmExp_End_any _ a2 a3 true _ (by rw [World.cell?_alloc_lt _ _ _ (by simp; omega)]; exact keepc hb1 (by simp [go_sem])) (by rw [World.cell?_alloc_lt _ _ _ (by simp; omega)]; exact keepc hb1 (by simp [go_sem])) (by rw [World.cell?_alloc_lt _ _ _ (by simp; omega)]; exact keepc hb1 (by simp [go_sem])) (by omega) (by omega) (by omega) (by omega)).mono ?_
  rintro e w2 ⟨rfl, hb2⟩
  rw [show brk true = 1 from rfl]
  obtain ⟨hc2, hf2, hz2, hB2, hs2⟩ := bcell (w := w) (by go_grown) hb2
  have hz2' : w1.heap.size < w2.heap.size := by simp at hz2; omega
  go_wp2_with fail
  have f0 : (w2.alloc (Obj.cells #[.int .u32 (addO a2 a3 1), .int .u32 (addL a2 a3 1)] 24)).cell? ⟨w1.heap.size, 0, none⟩ = some (.int .u32 a0) := by simp [go_sem, hc2, hz2']
  have f1 : (w2.alloc (Obj.cells #[.int .u32 (addO a2 a3 1), .int .u32 (addL a2 a3 1)] 24)).cell? ⟨w1.heap.size, 1, none⟩ = some (.int .u32 a1) := by simp [go_sem, hc2, hz2']
  have f2 : (w2.alloc (Obj.cells #[.int .u32 (addO a2 a3 1), .int .u32 (addL a2 a3 1)] 24)).cell? ⟨w2.heap.size, 0, none⟩ = some (.int .u32 (addO a2 a3 1)) := by simp [go_sem]
  have f3 : (w2.alloc (Obj.cells #[.int .u32 (addO a2 a3 1), .int .u32 (addL a2 a3 1)] 24)).cell? ⟨w2.heap.size, 1, none⟩ = some (.int .u32 (addL a2 a3 1)) := by simp [go_sem]
  have f4 : (w2.alloc (Obj.cells #[.int .u32 (addO a2 a3 1), .int .u32 (addL a2 a3 1)] 24)).cell? ⟨w.heap.size + 1 + 1 + 1, 0, none⟩ = some (.int .u32 a2) := by
    rw [World.cell?_alloc_lt _ _ _ (by simp; omega)]; exact keepc hb2 (by rw [World.cell?_alloc_lt _ _ _ (by simp; omega)]; exact r0)
  have f5 : (w2.alloc (Obj.cells #[.int .u32 (addO a2 a3 1), .int .u32 (addL a2 a3 1)] 24)).cell? ⟨w.heap.size + 1 + 1 + 1, 1, none⟩ = some (.int .u32 a3) := by
    rw [World.cell?_alloc_lt _ _ _ (by simp; omega)]; exact keepc hb2 (by rw [World.cell?_alloc_lt _ _ _ (by simp; omega)]; exact r1)
  have fB : Below w.heap.size w (w2.alloc (Obj.cells #[.int .u32 (addO a2 a3 1), .int .u32 (addL a2 a3 1)] 24)) := by go_grown
  clear hb1 hb2 hc1 hc2 hf1 hf2 hz1 hz2 hz1' hz2' hB1 hB2 hs1 hs2 r0 r1
  generalize (w2.alloc (Obj.cells #[.int .u32 (addO a2 a3 1), .int .u32 (addL a2 a3 1)] 24)) = W at f0 f1 f2 f3 f4 f5 fB ⊢
  generalize w1.heap.size = bp at f0 f1 f2 f3 f4 f5 fB ⊢
  generalize w2.heap.size = be at f0 f1 f2 f3 f4 f5 fB ⊢
  refine (after_any _ _ _ _ _).mono ?_
  rintro e w3 ⟨rfl, hb⟩
  obtain ⟨g0, g1, g2, g3, g4, g5, gB⟩ := keep33 ⟨f0, f1, f2, f3, f4, f5, fB⟩ hb
  rw [Q1.out]
  clear f0 f1 f2 f3 f4 f5 fB hb
  go_wp2_with fail
  refine (after_any _ _ _ _ _).mono ?_
  rintro e w4 ⟨rfl, hb⟩
  obtain ⟨f0, f1, f2, f3, f4, f5, fB⟩ := keep33 ⟨g0, g1, g2, g3, g4, g5, gB⟩ hb
  rw [Q2.out]
  clear g0 g1 g2 g3 g4 g5 gB hb
  go_wp2_with fail
  have q3 := Q3.out
  have q4 := Q4.out
  have q5 := Q5.out
  have q6 := Q6.out
  have q7 := Q7.out
  have qA := QA.out
  have q8 := Q8.out
  go_region_held3 (fun W => W.cell? ⟨bp, 0, none⟩ = some (.int .u32 a0) ∧ W.cell? ⟨bp, 1, none⟩ = some (.int .u32 a1) ∧ W.cell? ⟨be, 0, none⟩ = some (.int .u32 (addO a2 a3 1)) ∧ W.cell? ⟨be, 1, none⟩ = some (.int .u32 (addL a2 a3 1)) ∧ W.cell? ⟨w.heap.size + 1 + 1 + 1, 0, none⟩ = some (.int .u32 a2) ∧ W.cell? ⟨w.heap.size + 1 + 1 + 1, 1, none⟩ = some (.int .u32 a3) ∧ Below w.heap.size w W) (first | exact ⟨f0, f1, f2, f3, f4, f5, fB.drew⟩ | exact keep33 (by assumption) (by assumption)) (first | (go_at_call 17; refine (offset_any _ _ _ (by omega) (by omega)).mono ?_; rintro e w' ⟨rfl, hb⟩))
  all_goals
    rename_i hH
    obtain ⟨g0, g1, g2, g3, g4, g5, gB⟩ := hH
    clear q3 q4 q5 q6 q7 qA q8
    go_wp2_with fail
    have q9 := Q9.out
    go_region_held3 (fun W => W.cell? ⟨bp, 0, none⟩ = some (.int .u32 a0) ∧ W.cell? ⟨bp, 1, none⟩ = some (.int .u32 a1) ∧ W.cell? ⟨be, 0, none⟩ = some (.int .u32 (addO a2 a3 1)) ∧ W.cell? ⟨be, 1, none⟩ = some (.int .u32 (addL a2 a3 1)) ∧ W.cell? ⟨w.heap.size + 1 + 1 + 1, 0, none⟩ = some (.int .u32 a2) ∧ W.cell? ⟨w.heap.size + 1 + 1 + 1, 1, none⟩ = some (.int .u32 a3) ∧ Below w.heap.size w W) (first | exact ⟨g0, g1, g2, g3, g4, g5, gB.drew⟩ | exact keep33 (by assumption) (by assumption)) (first | (go_at_call 74; refine (line_any _ _ _ (by omega) (by omega)).mono ?_; rintro e w' ⟨rfl, hb⟩))
    all_goals
      rename_i hH
      have htrue := hH.2.2.2.2.2.2
      clear hH
      go_wp2
      go_ret
      exact ⟨rfl, htrue⟩
set_option maxHeartbeats 4000000 in
theorem arithmExp_false (a0 : Int) (a1 : Int) (a2 : Int) (a3 : Int) (w0 : (Lit.int .u32 a0).wf = true) (w1 : (Lit.int .u32 a1).wf = true) (w2 : (Lit.int .u32 a2).wf = true) (w3 : (Lit.int .u32 a3).wf = true) (w : World) :
    Calls Try.prog 13 #[.int .u32 a0, .int .u32 a1, .int .u32 a2, .int .u32 a3, Value.bool false] w fun e w' => e = .returned (.bool true) ∧ Below w.heap.size w w' := by
  have b0 := bounds_u32 w0
  have b1 := bounds_u32 w1
  have b2 := bounds_u32 w2
  have b3 := bounds_u32 w3
  clear w0 w1 w2 w3
  cases hv1 : rch a0 a1 with
  | false =>
    go_enter Try.func13, Try.ntmps13
    go_wp2_with (first | (go_at_call 75; refine (n010_131_zzReach_any _ _ _).mono ?_; rintro e w' ⟨rfl, rfl⟩))
    go_ret
    exact ⟨rfl, Below.refl _ _⟩
  | true =>
  cases hv2 : rch a2 a3 with
  | false =>
    go_enter Try.func13, Try.ntmps13
    go_wp2_with (first | (go_at_call 75; refine (n010_131_zzReach_any _ _ _).mono ?_; rintro e w' ⟨rfl, rfl⟩))
    go_ret
    exact ⟨rfl, Below.refl _ _⟩
  | true =>
  by_cases h1 : a1 = 0
  · subst h1
    go_enter Try.func13, Try.ntmps13
    go_wp2_with (first | (go_at_call 75; refine (n010_131_zzReach_any _ _ _).mono ?_; rintro e w' ⟨rfl, rfl⟩))
    go_ret
    exact ⟨rfl, Below.refl _ _⟩
  have h1' : (a1 == 0) = false := by simpa using h1
  by_cases h2 : a3 / 16384 = 0
  · have h2' : (a3 / 16384 == 0) = true := by simpa using h2
    clear h2 h1
    go_enter Try.func13, Try.ntmps13
    go_wp2_with (first | (go_at_call 75; refine (n010_131_zzReach_any _ _ _).mono ?_; rintro e w' ⟨rfl, rfl⟩))
    go_ret
    exact ⟨rfl, Below.refl _ _⟩
  have h2' : (a3 / 16384 == 0) = false := by simpa using h2
  by_cases h3 : 4294967282 < a2
  · clear h1 h2
    go_enter Try.func13, Try.ntmps13
    go_wp2_with (first | (go_at_call 75; refine (n010_131_zzReach_any _ _ _).mono ?_; rintro e w' ⟨rfl, rfl⟩))
    go_ret
    exact ⟨rfl, Below.refl _ _⟩
  by_cases h4 : a2 < a0
  · clear h1 h2
    go_enter Try.func13, Try.ntmps13
    go_wp2_with (first | (go_at_call 75; refine (n010_131_zzReach_any _ _ _).mono ?_; rintro e w' ⟨rfl, rfl⟩))
    go_ret
    exact ⟨rfl, Below.refl _ _⟩
  have e0 : brk false = 2 := rfl
  have hv : vld a2 a3 = true := vld_mk (by omega) (by omega)
  have hC := addC_bd a3 2
  have e1 : addO a2 a3 2 = a2 + 2 := by unfold addO; rw [if_pos hv]; omega
  have e2 : addL a2 a3 2 = a3 - a3 % 16384 + addC a3 2 := by unfold addL; rw [if_pos hv]
  have q1 : aft (addO a2 a3 2) (addL a2 a3 2) a0 = true := by
    have : vld (addO a2 a3 2) (addL a2 a3 2) = true := vld_mk (by omega) (by omega)
    simp only [aft, this, Bool.true_and, decide_eq_true_eq]; omega
  have q2 : aft a0 a1 (addO a2 a3 2) = false := by
    simp only [aft, Bool.and_eq_false_iff, decide_eq_false_iff_not]
    right; omega
  have q3 : offv (addO a2 a3 2) = a2 + 2 := by rw [e1]; unfold offv; rw [if_neg (by omega)]
  have q4 : offv a0 = a0 := by unfold offv; rw [if_neg (by omega)]
  have q5 : IntKind.u64.wrap (a2 + 2 - a0) = a2 + 2 - a0 := IntWalk.u64_in _ (by omega)
  have q6 : IntKind.u32.wrap (a2 - a0) = a2 - a0 := IntWalk.u32_in _ (by omega)
  have q7 : IntKind.u64.wrap (a2 - a0 + 2) = a2 - a0 + 2 := IntWalk.u64_in _ (by omega)
  have qA : IntKind.u64.wrap (a2 - a0) = a2 - a0 := IntWalk.u64_in _ (by omega)
  have q8 : (a2 + 2 - a0 != a2 - a0 + 2) = false := by simp; omega
  have q9 : addL a2 a3 2 / 16384 = a3 / 16384 := by omega
  have bO := addO_bd a2 a3 2 (by omega) (by omega)
  have bL := addL_bd a2 a3 2 (by omega) (by omega)
  have Q1 := Lib.hid q1
  have Q2 := Lib.hid q2
  have Q3 := Lib.hid q3
  have Q4 := Lib.hid q4
  have Q5 := Lib.hid q5
  have Q6 := Lib.hid q6
  have Q7 := Lib.hid q7
  have QA := Lib.hid qA
  have Q8 := Lib.hid q8
  have Q9 := Lib.hid q9
  clear h1 h2 e1 e2 q1 q2 q3 q4 q5 q6 q7 q8 q9 qA hv hC e0
  go_enter Try.func13, Try.ntmps13
  go_wp2_with (first | (go_at_call 75; refine (n010_131_zzReach_any _ _ _).mono ?_; rintro e w' ⟨rfl, rfl⟩) | (go_at_call 76; go_in))
  refine (ArithmExp_Pos_any _ a0 a1 _ (by simp [go_sem]) (by simp [go_sem])).mono ?_
  rintro e w1 ⟨rfl, hb1⟩
  obtain ⟨hc1, hf1, hz1, hB1, hs1⟩ := bcell (w := w) (by go_grown) hb1
  have hz1' : w.heap.size + 1 + 1 + 1 + 1 < w1.heap.size := by simp at hz1; omega
  have r0 : w1.cell? ⟨w.heap.size + 1 + 1 + 1, 0, none⟩ = some (.int .u32 a2) := keepc hb1 (by simp [go_sem])
  have r1 : w1.cell? ⟨w.heap.size + 1 + 1 + 1, 1, none⟩ = some (.int .u32 a3) := keepc hb1 (by simp [go_sem])
  go_wp2_with fail
  refine (ArithmExp_End_any _ a2 a3 false _ (by rw [World.cell?_alloc_lt _ _ _ (by simp; omega)]; exact keepc hb1 (by simp [go_sem])) (by rw [World.cell?_alloc_lt _ _ _ (by simp; omega)]; exact keepc hb1 (by simp [go_sem])) (by rw [World.cell?_alloc_lt _ _ _ (by simp; omega)]; exact keepc hb1 (by simp [go_sem])) (by omega) (by omega) (by omega) (by omega)).mono ?_
  rintro e w2 ⟨rfl, hb2⟩
  rw [show brk false = 2 from rfl]
  obtain ⟨hc2, hf2, hz2, hB2, hs2⟩ := bcell (w := w) (by go_grown) hb2
  have hz2' : w1.heap.size < w2.heap.size := by simp at hz2; omega
  go_wp2_with fail
  have f0 : (w2.alloc (Obj.cells #[.int .u32 (addO a2 a3 2), .int .u32 (addL a2 a3 2)] 24)).cell? ⟨w1.heap.size, 0, none⟩ = some (.int .u32 a0) := by simp [go_sem, hc2, hz2']
  have f1 : (w2.alloc (Obj.cells #[.int .u32 (addO a2 a3 2), .int .u32 (addL a2 a3 2)] 24)).cell? ⟨w1.heap.size, 1, none⟩ = some (.int .u32 a1) := by simp [go_sem, hc2, hz2']
  have f2 : (w2.alloc (Obj.cells #[.int .u32 (addO a2 a3 2), .int .u32 (addL a2 a3 2)] 24)).cell? ⟨w2.heap.size, 0, none⟩ = some (.int .u32 (addO a2 a3 2)) := by simp [go_sem]
  have f3 : (w2.alloc (Obj.cells #[.int .u32 (addO a2 a3 2), .int .u32 (addL a2 a3 2)] 24)).cell? ⟨w2.heap.size, 1, none⟩ = some (.int .u32 (addL a2 a3 2)) := by simp [go_sem]
  have f4 : (w2.alloc (Obj.cells #[.int .u32 (addO a2 a3 2), .int .u32 (addL a2 a3 2)] 24)).cell? ⟨w.heap.size + 1 + 1 + 1, 0, none⟩ = some (.int .u32 a2) := by
    rw [World.cell?_alloc_lt _ _ _ (by simp; omega)]; exact keepc hb2 (by rw [World.cell?_alloc_lt _ _ _ (by simp; omega)]; exact r0)
  have f5 : (w2.alloc (Obj.cells #[.int .u32 (addO a2 a3 2), .int .u32 (addL a2 a3 2)] 24)).cell? ⟨w.heap.size + 1 + 1 + 1, 1, none⟩ = some (.int .u32 a3) := by
    rw [World.cell?_alloc_lt _ _ _ (by simp; omega)]; exact keepc hb2 (by rw [World.cell?_alloc_lt _ _ _ (by simp; omega)]; exact r1)
  have fB : Below w.heap.size w (w2.alloc (Obj.cells #[.int .u32 (addO a2 a3 2), .int .u32 (addL a2 a3 2)] 24)) := by go_grown
  clear hb1 hb2 hc1 hc2 hf1 hf2 hz1 hz2 hz1' hz2' hB1 hB2 hs1 hs2 r0 r1
  generalize (w2.alloc (Obj.cells #[.int .u32 (addO a2 a3 2), .int .u32 (addL a2 a3 2)] 24)) = W at f0 f1 f2 f3 f4 f5 fB ⊢
  generalize w1.heap.size = bp at f0 f1 f2 f3 f4 f5 fB ⊢
  generalize w2.heap.size = be at f0 f1 f2 f3 f4 f5 fB ⊢
  refine (after_any _ _ _ _ _).mono ?_
  rintro e w3 ⟨rfl, hb⟩
  obtain ⟨g0, g1, g2, g3, g4, g5, gB⟩ := keep33 ⟨f0, f1, f2, f3, f4, f5, fB⟩ hb
  rw [Q1.out]
  clear f0 f1 f2 f3 f4 f5 fB hb
  go_wp2_with fail
  refine (after_any _ _ _ _ _).mono ?_
  rintro e w4 ⟨rfl, hb⟩
  obtain ⟨f0, f1, f2, f3, f4, f5, fB⟩ := keep33 ⟨g0, g1, g2, g3, g4, g5, gB⟩ hb
  rw [Q2.out]
  clear g0 g1 g2 g3 g4 g5 gB hb
  go_wp2_with fail
  have q3 := Q3.out
  have q4 := Q4.out
  have q5 := Q5.out
  have q6 := Q6.out
  have q7 := Q7.out
  have qA := QA.out
  have q8 := Q8.out
  go_region_held3 (fun W => W.cell? ⟨bp, 0, none⟩ = some (.int .u32 a0) ∧ W.cell? ⟨bp, 1, none⟩ = some (.int .u32 a1) ∧ W.cell? ⟨be, 0, none⟩ = some (.int .u32 (addO a2 a3 2)) ∧ W.cell? ⟨be, 1, none⟩ = some (.int .u32 (addL a2 a3 2)) ∧ W.cell? ⟨w.heap.size + 1 + 1 + 1, 0, none⟩ = some (.int .u32 a2) ∧ W.cell? ⟨w.heap.size + 1 + 1 + 1, 1, none⟩ = some (.int .u32 a3) ∧ Below w.heap.size w W) (first | exact ⟨f0, f1, f2, f3, f4, f5, fB.drew⟩ | exact keep33 (by assumption) (by assumption)) (first | (go_at_call 17; refine (offset_any _ _ _ (by omega) (by omega)).mono ?_; rintro e w' ⟨rfl, hb⟩))
  all_goals
    rename_i hH
    obtain ⟨g0, g1, g2, g3, g4, g5, gB⟩ := hH
    clear q3 q4 q5 q6 q7 qA q8
    go_wp2_with fail
    have q9 := Q9.out
    go_region_held3 (fun W => W.cell? ⟨bp, 0, none⟩ = some (.int .u32 a0) ∧ W.cell? ⟨bp, 1, none⟩ = some (.int .u32 a1) ∧ W.cell? ⟨be, 0, none⟩ = some (.int .u32 (addO a2 a3 2)) ∧ W.cell? ⟨be, 1, none⟩ = some (.int .u32 (addL a2 a3 2)) ∧ W.cell? ⟨w.heap.size + 1 + 1 + 1, 0, none⟩ = some (.int .u32 a2) ∧ W.cell? ⟨w.heap.size + 1 + 1 + 1, 1, none⟩ = some (.int .u32 a3) ∧ Below w.heap.size w W) (first | exact ⟨g0, g1, g2, g3, g4, g5, gB.drew⟩ | exact keep33 (by assumption) (by assumption)) (first | (go_at_call 74; refine (line_any _ _ _ (by omega) (by omega)).mono ?_; rintro e w' ⟨rfl, hb⟩))
    all_goals
      rename_i hH
      have hfalse := hH.2.2.2.2.2.2
      clear hH
      go_wp2
      go_ret
      exact ⟨rfl, hfalse⟩
theorem walkFnArithmExpSpan (a0 : Int) (a1 : Int) (a2 : Int) (a3 : Int) (a4 : Bool) (w0 : (Lit.int .u32 a0).wf = true) (w1 : (Lit.int .u32 a1).wf = true) (w2 : (Lit.int .u32 a2).wf = true) (w3 : (Lit.int .u32 a3).wf = true) (w : World) :
    Calls Try.prog 13 #[.int .u32 a0, .int .u32 a1, .int .u32 a2, .int .u32 a3, .bool a4] w fun e w' => e = .returned (.bool true) ∧ Below w.heap.size w w' := by
  cases a4 with
  | true => exact arithmExp_true a0 a1 a2 a3 w0 w1 w2 w3 w
  | false => exact arithmExp_false a0 a1 a2 a3 w0 w1 w2 w3 w
end Go.Proofs.Ytaampofbcbophaa
