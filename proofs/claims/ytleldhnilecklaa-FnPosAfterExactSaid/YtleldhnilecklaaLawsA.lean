/- Walks of laws over NewPos and After. -/
import Derived.Test.YtleldhnilecklaaPosB
import Derived.OpenShut
namespace Go.Proofs.Ytleldhnilecklaa
open Go.RowKit
theorem zzStored_any (a m : Int) (w : World) :
    Calls Try.prog 28 #[.int .u64 a, .int .u64 m] w fun e w' => e = .returned (.int .u64 (npF a m)) ∧ w = w' := by
  by_cases h : m < a
  · have e1 : npF a m = 0 := by simp [npF, h]
    rw [e1]; clear e1
    go_enter Try.func28, Try.ntmps28
    go_wp2
    go_ret
    exact ⟨rfl, rfl⟩
  · have e1 : npF a m = a := by simp [npF, h]
    rw [e1]; clear e1
    go_enter Try.func28, Try.ntmps28
    go_wp2
    go_ret
    exact ⟨rfl, rfl⟩
theorem zzValidModel_any (l c : Int) (w : World) (h0 : 0 ≤ l) (h1 : 0 ≤ c) :
    Calls Try.prog 9 #[.int .u64 l, .int .u64 c] w fun e w' => e = .returned (.bool (npL l c != 0)) ∧ w = w' := by
  have k1 := npF_bd l 262143 h0 (by omega)
  have k2 := npF_bd c 16383 h1 (by omega)
  by_cases h : npF l 262143 = 0
  · have h' : (npF l 262143 != 0) = false := by simpa using h
    have e1 : (npL l c != 0) = (npF c 16383 != 0) := by simp [npL, h]
    rw [e1]
    clear h k1 k2 e1
    go_enter Try.func9, Try.ntmps9
    go_wp2_with (go_at_call 28; refine (zzStored_any _ _ _).mono ?_; rintro e w' ⟨rfl, rfl⟩)
    go_ret
    exact ⟨rfl, rfl⟩
  · have h' : (npF l 262143 != 0) = true := by simpa using h
    have e1 : (npL l c != 0) = true := by have : npL l c ≠ 0 := by unfold npL; omega
                                          simpa using this
    rw [e1]
    clear h k1 k2 e1
    go_enter Try.func9, Try.ntmps9
    go_wp2_with (go_at_call 28; refine (zzStored_any _ _ _).mono ?_; rintro e w' ⟨rfl, rfl⟩)
    go_ret
    exact ⟨rfl, rfl⟩
theorem zzCapOff_any (o : Int) (w : World) :
    Calls Try.prog 10 #[.int .u64 o] w fun e w' => e = .returned (.int .u64 (npO o)) ∧ w = w' := by
  by_cases h : 4294967284 < o
  · have e1 : npO o = 4294967284 := by unfold npO; omega
    rw [e1]; clear e1
    go_enter Try.func10, Try.ntmps10
    go_wp2
    go_ret
    exact ⟨rfl, rfl⟩
  · have e1 : npO o = o := by unfold npO; omega
    rw [e1]; clear e1
    go_enter Try.func10, Try.ntmps10
    go_wp2
    go_ret
    exact ⟨rfl, rfl⟩
theorem walkFnPosAfterExact (a0 : Int) (a1 : Int) (a2 : Int) (a3 : Int) (a4 : Int) (a5 : Int) (w0 : (Lit.int .u64 a0).wf = true) (w1 : (Lit.int .u64 a1).wf = true) (w2 : (Lit.int .u64 a2).wf = true) (w3 : (Lit.int .u64 a3).wf = true) (w4 : (Lit.int .u64 a4).wf = true) (w5 : (Lit.int .u64 a5).wf = true) (w : World) :
    Calls Try.prog 3 #[.int .u64 a0, .int .u64 a1, .int .u64 a2, .int .u64 a3, .int .u64 a4, .int .u64 a5] w fun e w' => e = .returned (.bool true) ∧ Below w.heap.size w w' := by
  have b0 := bounds_u64 w0
  have b1 := bounds_u64 w1
  have b2 := bounds_u64 w2
  have b3 := bounds_u64 w3
  have b4 := bounds_u64 w4
  have b5 := bounds_u64 w5
  clear w0 w1 w2 w3 w4 w5
  have ha : aft (npO a0) (npL a1 a2) (npO a3) = ((npL a1 a2 != 0) && decide (npO a3 < npO a0)) := by
    have := npO_bd a0 b0.1
    simp [aft, vld, this.2]
  have HA := Lib.hid ha
  clear ha
  have hlast : Hid (((npL a1 a2 != 0) && decide (npO a3 < npO a0)) = aft (npO a0) (npL a1 a2) (npO a3)) := by rw [HA.out]; exact rfl
  clear HA
  have hin : ∀ x : Bool, x = aft (npO a0) (npL a1 a2) (npO a3) → (aft (npO a0) (npL a1 a2) (npO a3) == x) = true := by rintro x rfl; simp
  have Hin := Lib.hid hin
  clear hin
  cases h : (npL a1 a2 != 0) with
  | false =>
    have h1 := Hin.out false (by rw [← hlast.out, h]; rfl)
    go_enter Try.func3, Try.ntmps3
    go_wp2_with fail
    refine (newPos_any _ _ _ _ (by omega) (by omega) (by omega) (by omega) (by omega) (by omega)).mono ?_
    rintro e w1 ⟨rfl, hB⟩
    have hs := hB.size
    go_wp2_with fail
    refine (newPos_any _ _ _ _ (by omega) (by omega) (by omega) (by omega) (by omega) (by omega)).mono ?_
    rintro e w2 ⟨rfl, hb⟩
    obtain ⟨hc, hf, hz, hB2, hs2⟩ := bcell (w := w) (by go_grown) hb
    have hz2 : w1.heap.size < w2.heap.size := by simp at hz; omega
    clear hb hz
    go_wp2_with (first | (go_at_call 9; refine (zzValidModel_any _ _ _ (by omega) (by omega)).mono ?_; rintro e w' ⟨rfl, rfl⟩) | (go_at_call 10; refine (zzCapOff_any _ _).mono ?_; rintro e w' ⟨rfl, rfl⟩) | (go_at_call 11; refine (after_any _ _ _ _ _).mono ?_; rintro e w3 ⟨rfl, hb⟩; obtain ⟨hc3, hf3, hz3, hB3, hs3⟩ := bcell (w := w) (by go_grown) hb))
    go_ret
    exact ⟨rfl, hB3⟩
  | true =>
    have h1 := Hin.out (decide (npO a3 < npO a0)) (by rw [← hlast.out, h]; rfl)
    go_enter Try.func3, Try.ntmps3
    go_wp2_with fail
    refine (newPos_any _ _ _ _ (by omega) (by omega) (by omega) (by omega) (by omega) (by omega)).mono ?_
    rintro e w1 ⟨rfl, hB⟩
    have hs := hB.size
    go_wp2_with fail
    refine (newPos_any _ _ _ _ (by omega) (by omega) (by omega) (by omega) (by omega) (by omega)).mono ?_
    rintro e w2 ⟨rfl, hb⟩
    obtain ⟨hc, hf, hz, hB2, hs2⟩ := bcell (w := w) (by go_grown) hb
    have hz2 : w1.heap.size < w2.heap.size := by simp at hz; omega
    clear hb hz
    go_wp2_with (first | (go_at_call 9; refine (zzValidModel_any _ _ _ (by omega) (by omega)).mono ?_; rintro e w' ⟨rfl, rfl⟩) | (go_at_call 10; refine (zzCapOff_any _ _).mono ?_; rintro e w' ⟨rfl, rfl⟩) | (go_at_call 11; refine (after_any _ _ _ _ _).mono ?_; rintro e w3 ⟨rfl, hb⟩; obtain ⟨hc3, hf3, hz3, hB3, hs3⟩ := bcell (w := w) (by go_grown) hb))
    go_ret
    exact ⟨rfl, hB3⟩
end Go.Proofs.Ytleldhnilecklaa
