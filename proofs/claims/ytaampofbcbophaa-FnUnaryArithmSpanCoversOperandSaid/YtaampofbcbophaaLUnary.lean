/- Contracts of UnaryArithm, and the walk of FnUnaryArithmSpanCoversOperand. -/
import Derived.Test.YtaampofbcbophaaWord
import Derived.OpenShut
namespace Go.Proofs.Ytaampofbcbophaa
open Go.RowKit
theorem UnaryArithm_Pos_pre (b : Nat) (o lc : Int) (w : World) (h0 : w.cell? ⟨b, 0, none⟩ = some (.int .u32 o)) (h1 : w.cell? ⟨b, 1, none⟩ = some (.int .u32 lc)) (h3 : w.cell? ⟨b, 3, none⟩ = some (.bool false)) :
    Calls Try.prog 64 #[.pointer (some ⟨b, 0, none⟩)] w fun e w' => e = .returned (P2 o lc) ∧ Below w.heap.size w w' := by
  have hlt : b < w.heap.size := World.block_lt_of_cell? _ _ h0
  go_enter Try.func64, Try.ntmps64
  go_wp2
  go_returns
  exact ⟨rfl, by go_grown⟩
theorem UnaryArithm_Pos_post (b bw : Nat) (o lc : Int) (w : World) (h3 : w.cell? ⟨b, 3, none⟩ = some (.bool true)) (h4 : w.cell? ⟨b, 4, none⟩ = some (.iface 41 (.pointer (some ⟨bw, 0, none⟩))))
    (hend : ∀ W, Below w.heap.size w W → Calls Try.prog 59 #[.pointer (some ⟨bw, 0, none⟩)] W fun e w' => e = .returned (P2 o lc) ∧ Below W.heap.size W w') :
    Calls Try.prog 64 #[.pointer (some ⟨b, 0, none⟩)] w fun e w' => e = .returned (P2 o lc) ∧ Below w.heap.size w w' := by
  have hlt : b < w.heap.size := World.block_lt_of_cell? _ _ h3
  have HE := Lib.hid hend
  clear hend
  go_enter Try.func64, Try.ntmps64
  go_wp2_with (go_at_call 59; refine (HE.out _ (by go_grown)).mono ?_; rintro e w1 ⟨rfl, hb⟩; obtain ⟨hc, hf, hz, hB, hs⟩ := bcell (w := w) (by go_grown) hb; clear hb)
  refine bodyPost_ret (v := P2 o lc) (by simp [results, Try.results64, go_sem, hc]) rfl ⟨rfl, ?_⟩
  go_grown
theorem UnaryArithm_End_post (b : Nat) (o lc : Int) (w : World) (h0 : w.cell? ⟨b, 0, none⟩ = some (.int .u32 o)) (h1 : w.cell? ⟨b, 1, none⟩ = some (.int .u32 lc)) (h3 : w.cell? ⟨b, 3, none⟩ = some (.bool true)) (o0 : 0 ≤ o) (o1 : o < 4294967296) (l0 : 0 ≤ lc) (l1 : lc < 4294967296) :
    Calls Try.prog 65 #[.pointer (some ⟨b, 0, none⟩)] w fun e w' => e = .returned (P2 (addO o lc 2) (addL o lc 2)) ∧ Below w.heap.size w w' := by
  have hlt : b < w.heap.size := World.block_lt_of_cell? _ _ h0
  go_enter Try.func65, Try.ntmps65
  go_wp2_with (go_at_call 79; refine (addCol_any _ _ _ _ (by omega) (by omega) (by omega) (by omega) (by omega) (by omega)).mono ?_; rintro e w1 ⟨rfl, hb⟩; obtain ⟨hc, hf, hz, hB, hs⟩ := bcell (w := w) (by go_grown) hb; clear hb)
  refine bodyPost_ret (v := P2 (addO o lc 2) (addL o lc 2)) (by simp [results, Try.results65, go_sem, hc]) rfl ⟨rfl, ?_⟩
  go_grown
theorem UnaryArithm_End_pre (b bw : Nat) (o lc : Int) (w : World) (h3 : w.cell? ⟨b, 3, none⟩ = some (.bool false)) (h4 : w.cell? ⟨b, 4, none⟩ = some (.iface 41 (.pointer (some ⟨bw, 0, none⟩))))
    (hend : ∀ W, Below w.heap.size w W → Calls Try.prog 60 #[.pointer (some ⟨bw, 0, none⟩)] W fun e w' => e = .returned (P2 o lc) ∧ Below W.heap.size W w') :
    Calls Try.prog 65 #[.pointer (some ⟨b, 0, none⟩)] w fun e w' => e = .returned (P2 o lc) ∧ Below w.heap.size w w' := by
  have hlt : b < w.heap.size := World.block_lt_of_cell? _ _ h3
  have HE := Lib.hid hend
  clear hend
  go_enter Try.func65, Try.ntmps65
  go_wp2_with (go_at_call 60; refine (HE.out _ (by go_grown)).mono ?_; rintro e w1 ⟨rfl, hb⟩; obtain ⟨hc, hf, hz, hB, hs⟩ := bcell (w := w) (by go_grown) hb; clear hb)
  refine bodyPost_ret (v := P2 o lc) (by simp [results, Try.results65, go_sem, hc]) rfl ⟨rfl, ?_⟩
  go_grown
/-- What the law lays: a word of one literal, and the unary expression over it. -/
def Lay19 (W : World) (u wd pt lt : Nat) (op lc : Int) (post : Bool) (k xs xe : Int) : Prop :=
  Bk W u 105 #[.int .u32 op, .int .u32 lc, .int .u32 k, .bool post, .iface 41 (.pointer (some ⟨wd, 0, none⟩))] ∧ Bk W wd 46 #[.slice (some ⟨pt, 0, none⟩) 1 1] ∧ Bk W pt 128 #[.iface 37 (.pointer (some ⟨lt, 0, none⟩))] ∧ Bk W lt 97 #[.int .u32 xs, .int .u32 lc, .int .u32 xe, .int .u32 lc, .string ByteArray.empty]
theorem Lay19.keep {W W1 : World} {u wd pt lt : Nat} {op lc : Int} {post : Bool} {k xs xe : Int} (h : Lay19 W u wd pt lt op lc post k xs xe) (hb : Below W.heap.size W W1) : Lay19 W1 u wd pt lt op lc post k xs xe :=
  ⟨h.1.keep hb, h.2.1.keep hb, h.2.2.1.keep hb, h.2.2.2.keep hb⟩
theorem Lay19.wpos {W : World} {u wd pt lt : Nat} {op lc : Int} {post : Bool} {k xs xe : Int} (h : Lay19 W u wd pt lt op lc post k xs xe) :
    Calls Try.prog 59 #[.pointer (some ⟨wd, 0, none⟩)] W fun e w' => e = .returned (P2 xs lc) ∧ Below W.heap.size W w' :=
  Word_Pos_lit wd pt 0 1 lt xs lc W (by rw [h.2.1.cells]; rfl) (by omega) (by rw [h.2.2.1.cells]; rfl) (by rw [h.2.2.2.cells]; rfl) (by rw [h.2.2.2.cells]; rfl)
theorem Lay19.wend {W : World} {u wd pt lt : Nat} {op lc : Int} {post : Bool} {k xs xe : Int} (h : Lay19 W u wd pt lt op lc post k xs xe) :
    Calls Try.prog 60 #[.pointer (some ⟨wd, 0, none⟩)] W fun e w' => e = .returned (P2 xe lc) ∧ Below W.heap.size W w' :=
  Word_End_lit wd pt 0 1 lt xe lc W (by rw [h.2.1.cells]; rfl) (by omega) (by rw [h.2.2.1.cells]; rfl) (by rw [h.2.2.2.cells]; rfl) (by rw [h.2.2.2.cells]; rfl)
set_option maxHeartbeats 4000000 in
set_option maxRecDepth 100000 in
theorem unary19_false (a1 : Int) (a2 : Int) (a3 : Int) (a4 : Int) (w1 : (Lit.int .u32 a1).wf = true) (w2 : (Lit.int .u32 a2).wf = true) (w3 : (Lit.int .u32 a3).wf = true) (w4 : (Lit.int .u32 a4).wf = true) (w : World) :
    Calls Try.prog 10 #[.bool false, .int .u32 a1, .int .u32 a2, .int .u32 a3, .int .u32 a4] w fun e w' => e = .returned (.bool true) ∧ Below w.heap.size w w' := by
  have b1 := bounds_u32 w1
  have b2 := bounds_u32 w2
  have b3 := bounds_u32 w3
  have b4 := bounds_u32 w4
  clear w1 w2 w3 w4
  by_cases h1 : a4 / 16384 = 0
  · have h1' : (a4 / 16384 == 0) = true := by simpa using h1
    clear h1
    go_enter Try.func10, Try.ntmps10
    go_wp2_with fail
    go_ret
    exact ⟨rfl, Below.refl _ _⟩
  have h1' : (a4 / 16384 == 0) = false := by simpa using h1
  by_cases h2 : a2 < a1
  · clear h1
    go_enter Try.func10, Try.ntmps10
    go_wp2_with fail
    go_ret
    exact ⟨rfl, Below.refl _ _⟩
  have h2' : decide (a2 < a1) = false := by simpa using h2
  by_cases h3 : a3 < a2
  · clear h1
    go_enter Try.func10, Try.ntmps10
    go_wp2_with fail
    go_ret
    exact ⟨rfl, Below.refl _ _⟩
  have h3' : decide (a3 < a2) = false := by simpa using h3
  by_cases h4 : 4294967282 < a3
  · clear h1
    go_enter Try.func10, Try.ntmps10
    go_wp2_with fail
    go_ret
    exact ⟨rfl, Below.refl _ _⟩
  have h4' : decide (4294967282 < a3) = false := by simpa using h4
  by_cases h5 : a1 = a3
  · have h5' : (a1 == a3) = true := by simpa using h5
    clear h1 h5
    go_enter Try.func10, Try.ntmps10
    go_wp2_with fail
    go_ret
    exact ⟨rfl, Below.refl _ _⟩
  have h5' : (a1 == a3) = false := by simpa using h5
  have q1 : aft a1 a4 a2 = false := by simp [aft]; omega
  have q2 : aft a3 a4 a3 = false := by simp [aft]
  have q3 : aft a3 a4 a1 = true := by
    have : vld a3 a4 = true := vld_mk (by omega) (by omega)
    simp [aft, this]; omega
  clear h5
  have Q1 := Lib.hid q1
  have Q2 := Lib.hid q2
  have Q3 := Lib.hid q3
  clear q1 q2 q3 h1
  go_enter Try.func10, Try.ntmps10
  go_wp2_with (first | (go_at_call 63; go_in) | (go_at_call 90; go_in) | (go_at_call 62; go_in))
  refine calls_gen (S := fun W => Lay19 W (w.heap.size + 1 + 1 + 1 + 1 + 1 + 1 + 1 + 1 + 1 + 1 + 1) (w.heap.size + 1 + 1 + 1 + 1 + 1 + 1 + 1 + 1) (w.heap.size + 1 + 1 + 1 + 1 + 1 + 1 + 1) (w.heap.size + 1 + 1 + 1 + 1 + 1 + 1) a1 a4 false 83 a2 a3 ∧ Below w.heap.size w W) ⟨⟨(by repeat (first | (refine Bk.newAt ?_; simp; done) | refine Bk.alloc ?_ _ | refine Bk.drew ?_)), (by repeat (first | (refine Bk.newAt ?_; simp; done) | refine Bk.alloc ?_ _ | refine Bk.drew ?_)), (by repeat (first | (refine Bk.newAt ?_; simp; done) | refine Bk.alloc ?_ _ | refine Bk.drew ?_)), (by repeat (first | (refine Bk.newAt ?_; simp; done) | refine Bk.alloc ?_ _ | refine Bk.drew ?_))⟩, by go_grown⟩ ?_
  rintro W ⟨kL, B⟩
  refine (UnaryArithm_Pos_pre _ a1 a4 _ (by rw [kL.1.cells]; rfl) (by rw [kL.1.cells]; rfl) (by rw [kL.1.cells]; rfl)).mono ?_
  rintro e v1 ⟨rfl, hb⟩
  have kL := kL.keep hb
  have B := bmore B hb
  clear hb
  go_wp2_with fail
  refine (kL.wpos).mono ?_
  rintro e v2 ⟨rfl, hb⟩
  have kL := kL.keep hb
  have B := bmore B hb
  clear hb
  go_wp2_with fail
  refine (after_any _ _ _ _ _).mono ?_
  rintro e v3 ⟨rfl, hb⟩
  have kL := kL.keep hb
  have B := bmore B hb
  clear hb
  rw [Q1.out]
  go_wp2_with fail
  refine (kL.wend).mono ?_
  rintro e v4 ⟨rfl, hb⟩
  have kL := kL.keep hb
  have B := bmore B hb
  clear hb
  go_wp2_with fail
  refine (UnaryArithm_End_pre _ _ a3 a4 _ (by rw [kL.1.cells]; rfl) (by rw [kL.1.cells]; rfl) (fun W1 h => (kL.keep h).wend)).mono ?_
  rintro e v5 ⟨rfl, hb⟩
  have kL := kL.keep hb
  have B := bmore B hb
  clear hb
  go_wp2_with fail
  refine (after_any _ _ _ _ _).mono ?_
  rintro e v6 ⟨rfl, hb⟩
  have kL := kL.keep hb
  have B := bmore B hb
  clear hb
  rw [Q2.out]
  go_wp2_with fail
  refine (UnaryArithm_End_pre _ _ a3 a4 _ (by rw [kL.1.cells]; rfl) (by rw [kL.1.cells]; rfl) (fun W1 h => (kL.keep h).wend)).mono ?_
  rintro e v7 ⟨rfl, hb⟩
  have kL := kL.keep hb
  have B := bmore B hb
  clear hb
  go_wp2_with fail
  refine (UnaryArithm_Pos_pre _ a1 a4 _ (by rw [kL.1.cells]; rfl) (by rw [kL.1.cells]; rfl) (by rw [kL.1.cells]; rfl)).mono ?_
  rintro e v8 ⟨rfl, hb⟩
  have kL := kL.keep hb
  have B := bmore B hb
  clear hb
  go_wp2_with fail
  refine (after_any _ _ _ _ _).mono ?_
  rintro e v9 ⟨rfl, hb⟩
  have kL := kL.keep hb
  have B := bmore B hb
  clear hb
  rw [Q3.out]
  go_wp2
  go_ret
  exact ⟨rfl, B⟩
set_option maxHeartbeats 4000000 in
set_option maxRecDepth 100000 in
theorem unary19_true (a1 : Int) (a2 : Int) (a3 : Int) (a4 : Int) (w1 : (Lit.int .u32 a1).wf = true) (w2 : (Lit.int .u32 a2).wf = true) (w3 : (Lit.int .u32 a3).wf = true) (w4 : (Lit.int .u32 a4).wf = true) (w : World) :
    Calls Try.prog 10 #[.bool true, .int .u32 a1, .int .u32 a2, .int .u32 a3, .int .u32 a4] w fun e w' => e = .returned (.bool true) ∧ Below w.heap.size w w' := by
  have b1 := bounds_u32 w1
  have b2 := bounds_u32 w2
  have b3 := bounds_u32 w3
  have b4 := bounds_u32 w4
  clear w1 w2 w3 w4
  by_cases h1 : a4 / 16384 = 0
  · have h1' : (a4 / 16384 == 0) = true := by simpa using h1
    clear h1
    go_enter Try.func10, Try.ntmps10
    go_wp2_with fail
    go_ret
    exact ⟨rfl, Below.refl _ _⟩
  have h1' : (a4 / 16384 == 0) = false := by simpa using h1
  by_cases h2 : a2 < a1
  · clear h1
    go_enter Try.func10, Try.ntmps10
    go_wp2_with fail
    go_ret
    exact ⟨rfl, Below.refl _ _⟩
  have h2' : decide (a2 < a1) = false := by simpa using h2
  by_cases h3 : a3 < a2
  · clear h1
    go_enter Try.func10, Try.ntmps10
    go_wp2_with fail
    go_ret
    exact ⟨rfl, Below.refl _ _⟩
  have h3' : decide (a3 < a2) = false := by simpa using h3
  by_cases h4 : 4294967282 < a3
  · clear h1
    go_enter Try.func10, Try.ntmps10
    go_wp2_with fail
    go_ret
    exact ⟨rfl, Below.refl _ _⟩
  have h4' : decide (4294967282 < a3) = false := by simpa using h4
  have hv : vld a3 a4 = true := vld_mk (by omega) (by omega)
  have e1 : addO a3 a4 2 = a3 + 2 := by unfold addO; rw [if_pos hv]; omega
  have q1 : aft a1 a4 a1 = false := by simp [aft]
  have q2 : aft a2 a4 (addO a3 a4 2) = false := by rw [e1]; simp [aft]; omega
  have q3 : aft (addO a3 a4 2) (addL a3 a4 2) a1 = true := by
    have hC := addC_bd a4 2
    have e2 : addL a3 a4 2 = a4 - a4 % 16384 + addC a4 2 := by unfold addL; rw [if_pos hv]
    have : vld (addO a3 a4 2) (addL a3 a4 2) = true := vld_mk (by omega) (by omega)
    simp only [aft, this, Bool.true_and, decide_eq_true_eq]; omega
  clear hv e1
  have Q1 := Lib.hid q1
  have Q2 := Lib.hid q2
  have Q3 := Lib.hid q3
  clear q1 q2 q3 h1
  go_enter Try.func10, Try.ntmps10
  go_wp2_with (first | (go_at_call 63; go_in) | (go_at_call 90; go_in) | (go_at_call 62; go_in))
  refine calls_gen (S := fun W => Lay19 W (w.heap.size + 1 + 1 + 1 + 1 + 1 + 1 + 1 + 1 + 1 + 1 + 1) (w.heap.size + 1 + 1 + 1 + 1 + 1 + 1 + 1 + 1) (w.heap.size + 1 + 1 + 1 + 1 + 1 + 1 + 1) (w.heap.size + 1 + 1 + 1 + 1 + 1 + 1) a3 a4 true 41 a1 a2 ∧ Below w.heap.size w W) ⟨⟨(by repeat (first | (refine Bk.newAt ?_; simp; done) | refine Bk.alloc ?_ _ | refine Bk.drew ?_)), (by repeat (first | (refine Bk.newAt ?_; simp; done) | refine Bk.alloc ?_ _ | refine Bk.drew ?_)), (by repeat (first | (refine Bk.newAt ?_; simp; done) | refine Bk.alloc ?_ _ | refine Bk.drew ?_)), (by repeat (first | (refine Bk.newAt ?_; simp; done) | refine Bk.alloc ?_ _ | refine Bk.drew ?_))⟩, by go_grown⟩ ?_
  rintro W ⟨kL, B⟩
  refine (UnaryArithm_Pos_post _ _ a1 a4 _ (by rw [kL.1.cells]; rfl) (by rw [kL.1.cells]; rfl) (fun W1 h => (kL.keep h).wpos)).mono ?_
  rintro e v1 ⟨rfl, hb⟩
  have kL := kL.keep hb
  have B := bmore B hb
  clear hb
  go_wp2_with fail
  refine (kL.wpos).mono ?_
  rintro e v2 ⟨rfl, hb⟩
  have kL := kL.keep hb
  have B := bmore B hb
  clear hb
  go_wp2_with fail
  refine (after_any _ _ _ _ _).mono ?_
  rintro e v3 ⟨rfl, hb⟩
  have kL := kL.keep hb
  have B := bmore B hb
  clear hb
  rw [Q1.out]
  go_wp2_with fail
  refine (kL.wend).mono ?_
  rintro e v4 ⟨rfl, hb⟩
  have kL := kL.keep hb
  have B := bmore B hb
  clear hb
  go_wp2_with fail
  refine (UnaryArithm_End_post _ a3 a4 _ (by rw [kL.1.cells]; rfl) (by rw [kL.1.cells]; rfl) (by rw [kL.1.cells]; rfl) (by omega) (by omega) (by omega) (by omega)).mono ?_
  rintro e v5 ⟨rfl, hb⟩
  have kL := kL.keep hb
  have B := bmore B hb
  clear hb
  go_wp2_with fail
  refine (after_any _ _ _ _ _).mono ?_
  rintro e v6 ⟨rfl, hb⟩
  have kL := kL.keep hb
  have B := bmore B hb
  clear hb
  rw [Q2.out]
  go_wp2_with fail
  refine (UnaryArithm_End_post _ a3 a4 _ (by rw [kL.1.cells]; rfl) (by rw [kL.1.cells]; rfl) (by rw [kL.1.cells]; rfl) (by omega) (by omega) (by omega) (by omega)).mono ?_
  rintro e v7 ⟨rfl, hb⟩
  have kL := kL.keep hb
  have B := bmore B hb
  clear hb
  go_wp2_with fail
  refine (UnaryArithm_Pos_post _ _ a1 a4 _ (by rw [kL.1.cells]; rfl) (by rw [kL.1.cells]; rfl) (fun W1 h => (kL.keep h).wpos)).mono ?_
  rintro e v8 ⟨rfl, hb⟩
  have kL := kL.keep hb
  have B := bmore B hb
  clear hb
  go_wp2_with fail
  refine (after_any _ _ _ _ _).mono ?_
  rintro e v9 ⟨rfl, hb⟩
  have kL := kL.keep hb
  have B := bmore B hb
  clear hb
  rw [Q3.out]
  go_wp2
  go_ret
  exact ⟨rfl, B⟩
theorem walkFnUnaryArithmSpanCoversOperand (a0 : Bool) (a1 : Int) (a2 : Int) (a3 : Int) (a4 : Int) (w1 : (Lit.int .u32 a1).wf = true) (w2 : (Lit.int .u32 a2).wf = true) (w3 : (Lit.int .u32 a3).wf = true) (w4 : (Lit.int .u32 a4).wf = true) (w : World) :
    Calls Try.prog 10 #[.bool a0, .int .u32 a1, .int .u32 a2, .int .u32 a3, .int .u32 a4] w fun e w' => e = .returned (.bool true) ∧ Below w.heap.size w w' := by
  cases a0 with
  | false => exact unary19_false a1 a2 a3 a4 w1 w2 w3 w4 w
  | true => exact unary19_true a1 a2 a3 a4 w1 w2 w3 w4 w
end Go.Proofs.Ytaampofbcbophaa
