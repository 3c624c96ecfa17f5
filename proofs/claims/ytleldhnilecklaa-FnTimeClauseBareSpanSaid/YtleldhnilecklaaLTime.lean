/- The walk of FnTimeClauseBareSpan. -/
import Derived.Test.YtleldhnilecklaaNodes
import Derived.OpenShut
import Derived.Deep.RegionHeld3
import Derived.IntWalk
namespace Go.Proofs.Ytleldhnilecklaa
open Go.RowKit
theorem TimeClause_End_bare (b : Nat) (o lc : Int) (w : World) (h0 : w.cell? ⟨b, 0, none⟩ = some (.int .u32 o)) (h1 : w.cell? ⟨b, 1, none⟩ = some (.int .u32 lc)) (h3 : w.cell? ⟨b, 3, none⟩ = some (.pointer none)) (o0 : 0 ≤ o) (o1 : o < 4294967296) (l0 : 0 ≤ lc) (l1 : lc < 4294967296) :
    Calls Try.prog 23 #[.pointer (some ⟨b, 0, none⟩)] w fun e w' => e = .returned (P2 (addO o lc 4) (addL o lc 4)) ∧ Below w.heap.size w w' := by
  have hlt : b < w.heap.size := World.block_lt_of_cell? _ _ h0
  go_enter Try.func23, Try.ntmps23
  go_wp2_with (go_at_call 30; refine (addCol_any _ _ _ _ (by omega) (by omega) (by omega) (by omega) (by omega) (by omega)).mono ?_; rintro e w1 ⟨rfl, hb⟩; obtain ⟨hc, hf, hz, hB, hs⟩ := bcell (w := w) (by go_grown) hb; clear hb)
  refine bodyPost_ret (v := P2 (addO o lc 4) (addL o lc 4)) (by simp [results, Try.results23, go_sem, hc]) rfl ⟨rfl, ?_⟩
  go_grown
theorem zzB2Valid_any (o lc : Int) (w : World) :
    Calls Try.prog 21 #[.int .u32 o, .int .u32 lc] w fun e w' => e = .returned (.bool (vld o lc)) ∧ w = w' := by
  by_cases h1 : o ≤ 4294967284
  · have e1 : vld o lc = (lc != 0) := by simp [vld, h1]
    rw [e1]; clear e1
    go_enter Try.func21, Try.ntmps21
    go_wp2
    go_ret
    exact ⟨rfl, rfl⟩
  · have e1 : vld o lc = false := vld_no (.inl (by omega))
    have h1' : decide (o ≤ 4294967284) = false := by simpa using h1
    rw [e1]; clear e1
    go_enter Try.func21, Try.ntmps21
    go_wp2
    go_ret
    exact ⟨rfl, rfl⟩
set_option maxHeartbeats 2000000 in
theorem walkFnTimeClauseBareSpan (a0 : Int) (a1 : Int) (a2 : Bool) (w0 : (Lit.int .u32 a0).wf = true) (w1 : (Lit.int .u32 a1).wf = true) (w : World) :
    Calls Try.prog 6 #[.int .u32 a0, .int .u32 a1, .bool a2] w fun e w' => e = .returned (.bool true) ∧ Below w.heap.size w w' := by
  have b0 := bounds_u32 w0
  have b1 := bounds_u32 w1
  clear w0 w1
  cases hv : vld a0 a1 with
  | false =>
    go_enter Try.func6, Try.ntmps6
    go_wp2_with (go_at_call 21; refine (zzB2Valid_any _ _ _).mono ?_; rintro e w' ⟨rfl, rfl⟩)
    go_ret
    exact ⟨rfl, Below.refl _ _⟩
  | true =>
    by_cases hl : a1 / 16384 = 0
    · have hl' : (a1 / 16384 == 0) = true := by simpa using hl
      clear hl
      go_enter Try.func6, Try.ntmps6
      go_wp2_with (go_at_call 21; refine (zzB2Valid_any _ _ _).mono ?_; rintro e w' ⟨rfl, rfl⟩)
      go_ret
      exact ⟨rfl, Below.refl _ _⟩
    · have hl' : (a1 / 16384 == 0) = false := by simpa using hl
      by_cases ho : 4294967280 < a0
      · clear hl
        go_enter Try.func6, Try.ntmps6
        go_wp2_with (go_at_call 21; refine (zzB2Valid_any _ _ _).mono ?_; rintro e w' ⟨rfl, rfl⟩)
        go_ret
        exact ⟨rfl, Below.refl _ _⟩
      · have e1 : addO a0 a1 4 = a0 + 4 := by unfold addO; rw [if_pos hv]; omega
        have q1 : offv a0 = a0 := by unfold offv; rw [if_neg (by omega)]
        have q2 : offv (addO a0 a1 4) = a0 + 4 := by rw [e1]; unfold offv; rw [if_neg (by omega)]
        have q3 : addL a0 a1 4 / 16384 = a1 / 16384 := by
          have := addC_bd a1 4
          unfold addL; rw [if_pos hv]; omega
        have bL := addL_bd a0 a1 4 (by omega) (by omega)
        have q4 : aft (addO a0 a1 4) (addL a0 a1 4) a0 = true := by
          rw [e1]
          have : vld (a0 + 4) (addL a0 a1 4) = true := vld_mk (by omega) (by omega)
          simp [aft, this]; omega
        have q5 : aft a0 a1 (addO a0 a1 4) = false := by
          rw [e1]; simp [aft]; omega
        have bO := addO_bd a0 a1 4 (by omega) (by omega)
        have Q1 := Lib.hid q1
        have Q2 := Lib.hid q2
        have Q3 := Lib.hid q3
        have Q4 := Lib.hid q4
        have Q5 := Lib.hid q5
        clear hl e1 q1 q2 q3 q4 q5
        go_enter Try.func6, Try.ntmps6
        go_wp2_with (first | (go_at_call 21; refine (zzB2Valid_any _ _ _).mono ?_; rintro e w' ⟨rfl, rfl⟩) | (go_at_call 18; go_in))
        refine (TimeClause_Pos_any _ a0 a1 _ (by simp [go_sem]) (by simp [go_sem])).mono ?_
        rintro e w1 ⟨rfl, hb1⟩
        obtain ⟨hc1, hf1, hz1, hB1, hs1⟩ := bcell (w := w) (by go_grown) hb1
        go_wp2_with fail
        have hz1' : w.heap.size + 1 < w1.heap.size := by simp at hz1; omega
        refine (TimeClause_End_bare _ a0 a1 _ (by simp [go_sem, hc1, hz1']) (by simp [go_sem, hc1, hz1']) (by simp [go_sem, hc1, hz1']) (by omega) (by omega) (by omega) (by omega)).mono ?_
        rintro e w2 ⟨rfl, hb2⟩
        obtain ⟨hc2, hf2, hz2, hB2, hs2⟩ := bcell (w := w) (by go_grown) hb2
        go_wp2_with fail
        have hz2' : w1.heap.size < w2.heap.size := by simp at hz2; omega
        have f0 : (w2.alloc (Obj.cells #[.int .u32 (addO a0 a1 4), .int .u32 (addL a0 a1 4)] 25)).cell? ⟨w1.heap.size, 0, none⟩ = some (.int .u32 a0) := by simp [go_sem, hc2, hz2']
        have f1 : (w2.alloc (Obj.cells #[.int .u32 (addO a0 a1 4), .int .u32 (addL a0 a1 4)] 25)).cell? ⟨w1.heap.size, 1, none⟩ = some (.int .u32 a1) := by simp [go_sem, hc2, hz2']
        have f2 : (w2.alloc (Obj.cells #[.int .u32 (addO a0 a1 4), .int .u32 (addL a0 a1 4)] 25)).cell? ⟨w2.heap.size, 0, none⟩ = some (.int .u32 (addO a0 a1 4)) := by simp [go_sem]
        have f3 : (w2.alloc (Obj.cells #[.int .u32 (addO a0 a1 4), .int .u32 (addL a0 a1 4)] 25)).cell? ⟨w2.heap.size, 1, none⟩ = some (.int .u32 (addL a0 a1 4)) := by simp [go_sem]
        have fB : Below w.heap.size w (w2.alloc (Obj.cells #[.int .u32 (addO a0 a1 4), .int .u32 (addL a0 a1 4)] 25)) := by go_grown
        clear hb1 hb2 hc1 hc2 hf1 hf2 hz1 hz2 hz1' hz2' hB1 hB2 hs1 hs2
        generalize (w2.alloc (Obj.cells #[.int .u32 (addO a0 a1 4), .int .u32 (addL a0 a1 4)] 25)) = W at f0 f1 f2 f3 fB ⊢
        generalize w1.heap.size = bp at f0 f1 f2 f3 fB ⊢
        generalize w2.heap.size = be at f0 f1 f2 f3 fB ⊢
        have q1 := Q1.out
        have q2 := Q2.out
        have q3 := Q3.out
        have q4 := Q4.out
        have q5 := Q5.out
        have q6 : IntKind.u64.wrap (a0 + 4) = a0 + 4 := IntWalk.u64_in _ (by omega)
        go_region_held3 (fun W => W.cell? ⟨bp, 0, none⟩ = some (.int .u32 a0) ∧ W.cell? ⟨bp, 1, none⟩ = some (.int .u32 a1) ∧ W.cell? ⟨be, 0, none⟩ = some (.int .u32 (addO a0 a1 4)) ∧ W.cell? ⟨be, 1, none⟩ = some (.int .u32 (addL a0 a1 4)) ∧ Below w.heap.size w W) (first | exact ⟨f0, f1, f2, f3, fB.drew⟩ | exact keep22 (by assumption) (by assumption)) (first | (go_at_call 24; refine (offset_any _ _ _ (by omega) (by omega)).mono ?_; rintro e w' ⟨rfl, hb⟩) | (go_at_call 25; refine (line_any _ _ _ (by omega) (by omega)).mono ?_; rintro e w' ⟨rfl, hb⟩) | (go_at_call 11; refine (after_any _ _ _ _ _).mono ?_; rintro e w' ⟨rfl, hb⟩))
        rename_i hH
        have hBB := hH.2.2.2.2
        clear hH
        go_wp2
        go_ret
        exact ⟨rfl, hBB⟩
end Go.Proofs.Ytleldhnilecklaa
