/- Contracts of buildAssignB3: what Pos and End of the assignment that it builds answer, in every later world. -/
import Derived.Test.YtaampofbcbophaaLAsnEnd
namespace Go.Proofs.Ytaampofbcbophaa
open Go.RowKit
def AsnOK (W : World) (b : Nat) (po pl eo el : Int) : Prop :=
  (∀ W', Below W.heap.size W W' → Calls Try.prog 21 #[.pointer (some ⟨b, 0, none⟩)] W' fun e w' => e = .returned (P2 po pl) ∧ Below W'.heap.size W' w') ∧
  (∀ W', Below W.heap.size W W' → Calls Try.prog 22 #[.pointer (some ⟨b, 0, none⟩)] W' fun e w' => e = .returned (P2 eo el) ∧ Below W'.heap.size W' w')
theorem AsnOK.keep {W W1 : World} {b : Nat} {po pl eo el : Int} (h : AsnOK W b po pl eo el) (hb : Below W.heap.size W W1) : AsnOK W1 b po pl eo el :=
  ⟨fun W' h' => h.1 W' (bmore hb h'), fun W' h' => h.2 W' (bmore hb h')⟩
theorem gen_world {Rr : World → Prop} {W : World} {S : World → Prop} (h : S W) (k : ∀ W', S W' → Rr W') : Rr W := k W h
def Built132 (w : World) (po pl eo el : Int) (e : Ending) (w' : World) : Prop := ∃ b : Nat, e = .returned (.pointer (some ⟨b, 0, none⟩)) ∧ AsnOK w' b po pl eo el ∧ Below w.heap.size w w'
set_option maxHeartbeats 4000000 in
set_option maxRecDepth 100000 in
theorem bld_val (a0 a1 a2 eo ec : Int) (s3 s4 s5 : ByteArray) (w : World) (b0 : 0 ≤ a0) (b0' : a0 ≤ 1073758208) (b1 : 1 ≤ a1) (b1' : a1 ≤ 262143) (b2 : 1 ≤ a2) (m3 : s3.size ≤ 4096) (_m4 : s4.size ≤ 4096) (n5 : 1 ≤ s5.size) (m5 : s5.size ≤ 4096) (ht : a2 + ((s3.size : Int) + 1 + (s5.size : Int)) ≤ 16383) (he : eo = a0 + ((s3.size : Int) + 1 + (s5.size : Int))) (hc : ec = a2 + ((s3.size : Int) + 1 + (s5.size : Int))) :
    Calls Try.prog 72 #[.int .u32 a0, .int .u32 a1, .int .u32 a2, .string s3, .string s4, .string s5, .bool false, .bool false] w (Built132 w a0 (a1 * 16384 + a2) eo (a1 * 16384 + ec)) := by
  have HE := Lib.hid he
  have HC := Lib.hid hc
  clear he hc
  have z5' : (0 : Int) < (s5.size : Int) := by omega
  go_enter Try.func72, Try.ntmps72
  go_wp2_with (go_at_call 19; refine (litB3_eq _ _ _ _ _ (by omega) (by omega) (by omega) (by omega) (by omega) (by omega)).mono ?_; rintro e w' ⟨rfl, rfl⟩)
  go_ret
  refine gen_world (S := fun W => Bk W (w.heap.size + 1 + 1 + 1 + 1) 97 #[.int .u32 a0, .int .u32 (a1 * 16384 + a2), .int .u32 (a0 + (s3.size : Int)), .int .u32 (a1 * 16384 + (a2 + (s3.size : Int))), .string s3] ∧ Bk W (w.heap.size + 1 + 1 + 1 + 1 + 1 + 1 + 1 + 1 + 1 + 1) 97 #[.int .u32 (a0 + ((s3.size : Int) + 1)), .int .u32 (a1 * 16384 + (a2 + ((s3.size : Int) + 1))), .int .u32 (a0 + ((s3.size : Int) + 1) + (s5.size : Int)), .int .u32 (a1 * 16384 + (a2 + ((s3.size : Int) + 1) + (s5.size : Int))), .string s5] ∧ Bk W (w.heap.size + 1 + 1 + 1 + 1 + 1 + 1 + 1 + 1 + 1 + 1 + 1) 128 #[.iface 37 (.pointer (some ⟨w.heap.size + 1 + 1 + 1 + 1 + 1 + 1 + 1 + 1 + 1 + 1, 0, none⟩))] ∧ Bk W (w.heap.size + 1 + 1 + 1 + 1 + 1 + 1 + 1 + 1 + 1 + 1 + 1 + 1) 46 #[.slice (some ⟨w.heap.size + 1 + 1 + 1 + 1 + 1 + 1 + 1 + 1 + 1 + 1 + 1, 0, none⟩) 1 1] ∧ Bk W (w.heap.size + 1 + 1 + 1 + 1 + 1) 43 #[.bool false, .bool false, .pointer (some ⟨w.heap.size + 1 + 1 + 1 + 1, 0, none⟩), .nilIface, .pointer (some ⟨w.heap.size + 1 + 1 + 1 + 1 + 1 + 1 + 1 + 1 + 1 + 1 + 1 + 1, 0, none⟩), .pointer none] ∧ Below w.heap.size w W) ⟨(by repeat (first | (refine Bk.newAt ?_; simp; done) | refine Bk.alloc ?_ _ | refine Bk.drew ?_)), (by repeat (first | (refine Bk.newAt ?_; simp; done) | refine Bk.alloc ?_ _ | refine Bk.drew ?_)), (by repeat (first | (refine Bk.newAt ?_; simp; done) | refine Bk.alloc ?_ _ | refine Bk.drew ?_)), (by repeat (first | (refine Bk.newAt ?_; simp; done) | refine Bk.alloc ?_ _ | refine Bk.drew ?_)), (by repeat (first | (refine Bk.newAt ?_; simp; done) | refine Bk.alloc ?_ _ | refine Bk.drew ?_)), by go_grown⟩ ?_
  rintro W ⟨kN, kV, kVp, kVw, kA, hB⟩
  refine ⟨w.heap.size + 1 + 1 + 1 + 1 + 1, rfl, ⟨fun W1 hb => Assign_Pos_name (w.heap.size + 1 + 1 + 1 + 1 + 1) (w.heap.size + 1 + 1 + 1 + 1) a0 (a1 * 16384 + a2) W1 (by rw [(kA.keep hb).cells]; rfl) (by rw [(kN.keep hb).cells]; rfl) (by rw [(kN.keep hb).cells]; rfl), fun W1 hb => ?_⟩, hB⟩
  have kN := kN.keep hb
  have kV := kV.keep hb
  have kVp := kVp.keep hb
  have kVw := kVw.keep hb
  have kA := kA.keep hb
  have HE := HE.out
  have HC := HC.out
  have C := Assign_End_value (w.heap.size + 1 + 1 + 1 + 1 + 1) (w.heap.size + 1 + 1 + 1 + 1 + 1 + 1 + 1 + 1 + 1 + 1 + 1 + 1) (a0 + ((s3.size : Int) + 1) + (s5.size : Int)) (a1 * 16384 + (a2 + ((s3.size : Int) + 1) + (s5.size : Int))) W1 (by rw [kA.cells]; rfl) (fun W1 hb1 => Word_End_lit (w.heap.size + 1 + 1 + 1 + 1 + 1 + 1 + 1 + 1 + 1 + 1 + 1 + 1) (w.heap.size + 1 + 1 + 1 + 1 + 1 + 1 + 1 + 1 + 1 + 1 + 1) 0 1 (w.heap.size + 1 + 1 + 1 + 1 + 1 + 1 + 1 + 1 + 1 + 1) (a0 + ((s3.size : Int) + 1) + (s5.size : Int)) (a1 * 16384 + (a2 + ((s3.size : Int) + 1) + (s5.size : Int))) W1 (by rw [(kVw.keep hb1).cells]; rfl) (by omega) (by rw [(kVp.keep hb1).cells]; rfl) (by rw [(kV.keep hb1).cells]; rfl) (by rw [(kV.keep hb1).cells]; rfl))
  have e1 : a0 + ((s3.size : Int) + 1) + (s5.size : Int) = eo := by omega
  have e2 : a2 + ((s3.size : Int) + 1) + (s5.size : Int) = ec := by omega
  rw [e1, e2] at C
  exact C
set_option maxHeartbeats 4000000 in
set_option maxRecDepth 100000 in
theorem bld_ival (a0 a1 a2 eo ec : Int) (s3 s4 s5 : ByteArray) (w : World) (b0 : 0 ≤ a0) (b0' : a0 ≤ 1073758208) (b1 : 1 ≤ a1) (b1' : a1 ≤ 262143) (b2 : 1 ≤ a2) (m3 : s3.size ≤ 4096) (_m4 : s4.size ≤ 4096) (n5 : 1 ≤ s5.size) (m5 : s5.size ≤ 4096) (ht : a2 + ((s3.size : Int) + (2 + (s4.size : Int)) + 1 + (s5.size : Int)) ≤ 16383) (he : eo = a0 + ((s3.size : Int) + (2 + (s4.size : Int)) + 1 + (s5.size : Int))) (hc : ec = a2 + ((s3.size : Int) + (2 + (s4.size : Int)) + 1 + (s5.size : Int))) :
    Calls Try.prog 72 #[.int .u32 a0, .int .u32 a1, .int .u32 a2, .string s3, .string s4, .string s5, .bool true, .bool false] w (Built132 w a0 (a1 * 16384 + a2) eo (a1 * 16384 + ec)) := by
  have HE := Lib.hid he
  have HC := Lib.hid hc
  clear he hc
  have z5' : (0 : Int) < (s5.size : Int) := by omega
  go_enter Try.func72, Try.ntmps72
  go_wp2_with (go_at_call 19; refine (litB3_eq _ _ _ _ _ (by omega) (by omega) (by omega) (by omega) (by omega) (by omega)).mono ?_; rintro e w' ⟨rfl, rfl⟩)
  go_ret
  refine gen_world (S := fun W => Bk W (w.heap.size + 1 + 1 + 1 + 1) 97 #[.int .u32 a0, .int .u32 (a1 * 16384 + a2), .int .u32 (a0 + (s3.size : Int)), .int .u32 (a1 * 16384 + (a2 + (s3.size : Int))), .string s3] ∧ Bk W (w.heap.size + 1 + 1 + 1 + 1 + 1 + 1 + 1 + 1 + 1 + 1) 97 #[.int .u32 (a0 + ((s3.size : Int) + 1)), .int .u32 (a1 * 16384 + (a2 + ((s3.size : Int) + 1))), .int .u32 (a0 + ((s3.size : Int) + 1) + (s4.size : Int)), .int .u32 (a1 * 16384 + (a2 + ((s3.size : Int) + 1) + (s4.size : Int))), .string s4] ∧ Bk W (w.heap.size + 1 + 1 + 1 + 1 + 1 + 1 + 1 + 1 + 1 + 1 + 1) 128 #[.iface 37 (.pointer (some ⟨w.heap.size + 1 + 1 + 1 + 1 + 1 + 1 + 1 + 1 + 1 + 1, 0, none⟩))] ∧ Bk W (w.heap.size + 1 + 1 + 1 + 1 + 1 + 1 + 1 + 1 + 1 + 1 + 1 + 1) 46 #[.slice (some ⟨w.heap.size + 1 + 1 + 1 + 1 + 1 + 1 + 1 + 1 + 1 + 1 + 1, 0, none⟩) 1 1] ∧ Bk W (w.heap.size + 1 + 1 + 1 + 1 + 1 + 1 + 1 + 1 + 1 + 1 + 1 + 1 + 1 + 1 + 1 + 1 + 1) 97 #[.int .u32 (a0 + ((s3.size : Int) + 1 + ((s4.size : Int) + 1) + 1)), .int .u32 (a1 * 16384 + (a2 + ((s3.size : Int) + 1 + ((s4.size : Int) + 1) + 1))), .int .u32 (a0 + ((s3.size : Int) + 1 + ((s4.size : Int) + 1) + 1) + (s5.size : Int)), .int .u32 (a1 * 16384 + (a2 + ((s3.size : Int) + 1 + ((s4.size : Int) + 1) + 1) + (s5.size : Int))), .string s5] ∧ Bk W (w.heap.size + 1 + 1 + 1 + 1 + 1 + 1 + 1 + 1 + 1 + 1 + 1 + 1 + 1 + 1 + 1 + 1 + 1 + 1) 128 #[.iface 37 (.pointer (some ⟨w.heap.size + 1 + 1 + 1 + 1 + 1 + 1 + 1 + 1 + 1 + 1 + 1 + 1 + 1 + 1 + 1 + 1 + 1, 0, none⟩))] ∧ Bk W (w.heap.size + 1 + 1 + 1 + 1 + 1 + 1 + 1 + 1 + 1 + 1 + 1 + 1 + 1 + 1 + 1 + 1 + 1 + 1 + 1) 46 #[.slice (some ⟨w.heap.size + 1 + 1 + 1 + 1 + 1 + 1 + 1 + 1 + 1 + 1 + 1 + 1 + 1 + 1 + 1 + 1 + 1 + 1, 0, none⟩) 1 1] ∧ Bk W (w.heap.size + 1 + 1 + 1 + 1 + 1) 43 #[.bool false, .bool false, .pointer (some ⟨w.heap.size + 1 + 1 + 1 + 1, 0, none⟩), .iface 41 (.pointer (some ⟨w.heap.size + 1 + 1 + 1 + 1 + 1 + 1 + 1 + 1 + 1 + 1 + 1 + 1, 0, none⟩)), .pointer (some ⟨w.heap.size + 1 + 1 + 1 + 1 + 1 + 1 + 1 + 1 + 1 + 1 + 1 + 1 + 1 + 1 + 1 + 1 + 1 + 1 + 1, 0, none⟩), .pointer none] ∧ Below w.heap.size w W) ⟨(by repeat (first | (refine Bk.newAt ?_; simp; done) | refine Bk.alloc ?_ _ | refine Bk.drew ?_)), (by repeat (first | (refine Bk.newAt ?_; simp; done) | refine Bk.alloc ?_ _ | refine Bk.drew ?_)), (by repeat (first | (refine Bk.newAt ?_; simp; done) | refine Bk.alloc ?_ _ | refine Bk.drew ?_)), (by repeat (first | (refine Bk.newAt ?_; simp; done) | refine Bk.alloc ?_ _ | refine Bk.drew ?_)), (by repeat (first | (refine Bk.newAt ?_; simp; done) | refine Bk.alloc ?_ _ | refine Bk.drew ?_)), (by repeat (first | (refine Bk.newAt ?_; simp; done) | refine Bk.alloc ?_ _ | refine Bk.drew ?_)), (by repeat (first | (refine Bk.newAt ?_; simp; done) | refine Bk.alloc ?_ _ | refine Bk.drew ?_)), (by repeat (first | (refine Bk.newAt ?_; simp; done) | refine Bk.alloc ?_ _ | refine Bk.drew ?_)), by go_grown⟩ ?_
  rintro W ⟨kN, kI, kIp, kIw, kV, kVp, kVw, kA, hB⟩
  refine ⟨w.heap.size + 1 + 1 + 1 + 1 + 1, rfl, ⟨fun W1 hb => Assign_Pos_name (w.heap.size + 1 + 1 + 1 + 1 + 1) (w.heap.size + 1 + 1 + 1 + 1) a0 (a1 * 16384 + a2) W1 (by rw [(kA.keep hb).cells]; rfl) (by rw [(kN.keep hb).cells]; rfl) (by rw [(kN.keep hb).cells]; rfl), fun W1 hb => ?_⟩, hB⟩
  have kN := kN.keep hb
  have kI := kI.keep hb
  have kIp := kIp.keep hb
  have kIw := kIw.keep hb
  have kV := kV.keep hb
  have kVp := kVp.keep hb
  have kVw := kVw.keep hb
  have kA := kA.keep hb
  have HE := HE.out
  have HC := HC.out
  have C := Assign_End_value (w.heap.size + 1 + 1 + 1 + 1 + 1) (w.heap.size + 1 + 1 + 1 + 1 + 1 + 1 + 1 + 1 + 1 + 1 + 1 + 1 + 1 + 1 + 1 + 1 + 1 + 1 + 1) (a0 + ((s3.size : Int) + 1 + ((s4.size : Int) + 1) + 1) + (s5.size : Int)) (a1 * 16384 + (a2 + ((s3.size : Int) + 1 + ((s4.size : Int) + 1) + 1) + (s5.size : Int))) W1 (by rw [kA.cells]; rfl) (fun W1 hb1 => Word_End_lit (w.heap.size + 1 + 1 + 1 + 1 + 1 + 1 + 1 + 1 + 1 + 1 + 1 + 1 + 1 + 1 + 1 + 1 + 1 + 1 + 1) (w.heap.size + 1 + 1 + 1 + 1 + 1 + 1 + 1 + 1 + 1 + 1 + 1 + 1 + 1 + 1 + 1 + 1 + 1 + 1) 0 1 (w.heap.size + 1 + 1 + 1 + 1 + 1 + 1 + 1 + 1 + 1 + 1 + 1 + 1 + 1 + 1 + 1 + 1 + 1) (a0 + ((s3.size : Int) + 1 + ((s4.size : Int) + 1) + 1) + (s5.size : Int)) (a1 * 16384 + (a2 + ((s3.size : Int) + 1 + ((s4.size : Int) + 1) + 1) + (s5.size : Int))) W1 (by rw [(kVw.keep hb1).cells]; rfl) (by omega) (by rw [(kVp.keep hb1).cells]; rfl) (by rw [(kV.keep hb1).cells]; rfl) (by rw [(kV.keep hb1).cells]; rfl))
  have e1 : a0 + ((s3.size : Int) + 1 + ((s4.size : Int) + 1) + 1) + (s5.size : Int) = eo := by omega
  have e2 : a2 + ((s3.size : Int) + 1 + ((s4.size : Int) + 1) + 1) + (s5.size : Int) = ec := by omega
  rw [e1, e2] at C
  exact C
set_option maxHeartbeats 4000000 in
set_option maxRecDepth 100000 in
theorem bld_idx (a0 a1 a2 eo ec : Int) (s3 s4 : ByteArray) (w : World) (b0 : 0 ≤ a0) (b0' : a0 ≤ 1073758208) (b1 : 1 ≤ a1) (b1' : a1 ≤ 262143) (b2 : 1 ≤ a2) (m3 : s3.size ≤ 4096) (_m4 : s4.size ≤ 4096) (ht : a2 + ((s3.size : Int) + (2 + (s4.size : Int)) + 1) ≤ 16383) (he : eo = a0 + ((s3.size : Int) + (2 + (s4.size : Int)) + 1)) (hc : ec = a2 + ((s3.size : Int) + (2 + (s4.size : Int)) + 1)) :
    Calls Try.prog 72 #[.int .u32 a0, .int .u32 a1, .int .u32 a2, .string s3, .string s4, .string ByteArray.empty, .bool true, .bool false] w (Built132 w a0 (a1 * 16384 + a2) eo (a1 * 16384 + ec)) := by
  have HE := Lib.hid he
  have HC := Lib.hid hc
  clear he hc
  go_enter Try.func72, Try.ntmps72
  go_wp2_with (go_at_call 19; refine (litB3_eq _ _ _ _ _ (by omega) (by omega) (by omega) (by omega) (by omega) (by omega)).mono ?_; rintro e w' ⟨rfl, rfl⟩)
  go_ret
  refine gen_world (S := fun W => Bk W (w.heap.size + 1 + 1 + 1 + 1) 97 #[.int .u32 a0, .int .u32 (a1 * 16384 + a2), .int .u32 (a0 + (s3.size : Int)), .int .u32 (a1 * 16384 + (a2 + (s3.size : Int))), .string s3] ∧ Bk W (w.heap.size + 1 + 1 + 1 + 1 + 1 + 1 + 1 + 1 + 1 + 1) 97 #[.int .u32 (a0 + ((s3.size : Int) + 1)), .int .u32 (a1 * 16384 + (a2 + ((s3.size : Int) + 1))), .int .u32 (a0 + ((s3.size : Int) + 1) + (s4.size : Int)), .int .u32 (a1 * 16384 + (a2 + ((s3.size : Int) + 1) + (s4.size : Int))), .string s4] ∧ Bk W (w.heap.size + 1 + 1 + 1 + 1 + 1 + 1 + 1 + 1 + 1 + 1 + 1) 128 #[.iface 37 (.pointer (some ⟨w.heap.size + 1 + 1 + 1 + 1 + 1 + 1 + 1 + 1 + 1 + 1, 0, none⟩))] ∧ Bk W (w.heap.size + 1 + 1 + 1 + 1 + 1 + 1 + 1 + 1 + 1 + 1 + 1 + 1) 46 #[.slice (some ⟨w.heap.size + 1 + 1 + 1 + 1 + 1 + 1 + 1 + 1 + 1 + 1 + 1, 0, none⟩) 1 1] ∧ Bk W (w.heap.size + 1 + 1 + 1 + 1 + 1) 43 #[.bool false, .bool false, .pointer (some ⟨w.heap.size + 1 + 1 + 1 + 1, 0, none⟩), .iface 41 (.pointer (some ⟨w.heap.size + 1 + 1 + 1 + 1 + 1 + 1 + 1 + 1 + 1 + 1 + 1 + 1, 0, none⟩)), .pointer none, .pointer none] ∧ Below w.heap.size w W) ⟨(by repeat (first | (refine Bk.newAt ?_; simp; done) | refine Bk.alloc ?_ _ | refine Bk.drew ?_)), (by repeat (first | (refine Bk.newAt ?_; simp; done) | refine Bk.alloc ?_ _ | refine Bk.drew ?_)), (by repeat (first | (refine Bk.newAt ?_; simp; done) | refine Bk.alloc ?_ _ | refine Bk.drew ?_)), (by repeat (first | (refine Bk.newAt ?_; simp; done) | refine Bk.alloc ?_ _ | refine Bk.drew ?_)), (by repeat (first | (refine Bk.newAt ?_; simp; done) | refine Bk.alloc ?_ _ | refine Bk.drew ?_)), by go_grown⟩ ?_
  rintro W ⟨kN, kI, kIp, kIw, kA, hB⟩
  refine ⟨w.heap.size + 1 + 1 + 1 + 1 + 1, rfl, ⟨fun W1 hb => Assign_Pos_name (w.heap.size + 1 + 1 + 1 + 1 + 1) (w.heap.size + 1 + 1 + 1 + 1) a0 (a1 * 16384 + a2) W1 (by rw [(kA.keep hb).cells]; rfl) (by rw [(kN.keep hb).cells]; rfl) (by rw [(kN.keep hb).cells]; rfl), fun W1 hb => ?_⟩, hB⟩
  have kN := kN.keep hb
  have kI := kI.keep hb
  have kIp := kIp.keep hb
  have kIw := kIw.keep hb
  have kA := kA.keep hb
  have HE := HE.out
  have HC := HC.out
  have C := Assign_End_index (w.heap.size + 1 + 1 + 1 + 1 + 1) (w.heap.size + 1 + 1 + 1 + 1 + 1 + 1 + 1 + 1 + 1 + 1 + 1 + 1) (a0 + ((s3.size : Int) + 1) + (s4.size : Int)) (a1 * 16384 + (a2 + ((s3.size : Int) + 1) + (s4.size : Int))) W1 (by rw [kA.cells]; rfl) (by rw [kA.cells]; rfl) (by rw [kA.cells]; rfl) (by rw [kA.cells]; rfl) (fun W1 hb1 => Word_End_lit (w.heap.size + 1 + 1 + 1 + 1 + 1 + 1 + 1 + 1 + 1 + 1 + 1 + 1) (w.heap.size + 1 + 1 + 1 + 1 + 1 + 1 + 1 + 1 + 1 + 1 + 1) 0 1 (w.heap.size + 1 + 1 + 1 + 1 + 1 + 1 + 1 + 1 + 1 + 1) (a0 + ((s3.size : Int) + 1) + (s4.size : Int)) (a1 * 16384 + (a2 + ((s3.size : Int) + 1) + (s4.size : Int))) W1 (by rw [(kIw.keep hb1).cells]; rfl) (by omega) (by rw [(kIp.keep hb1).cells]; rfl) (by rw [(kI.keep hb1).cells]; rfl) (by rw [(kI.keep hb1).cells]; rfl)) (by omega) (by omega) (by omega) (by omega)
  rw [addO_in (by omega) (by omega) (by omega) (by omega), addL_in (by omega) (by omega) (by omega) (by omega) (by omega)] at C
  have e1 : a0 + ((s3.size : Int) + 1) + (s4.size : Int) + 2 = eo := by omega
  have e2 : a2 + ((s3.size : Int) + 1) + (s4.size : Int) + 2 = ec := by omega
  rw [e1, e2] at C
  exact C
set_option maxHeartbeats 4000000 in
set_option maxRecDepth 100000 in
theorem bld_idxn (a0 a1 a2 eo ec : Int) (s3 s4 : ByteArray) (w : World) (b0 : 0 ≤ a0) (b0' : a0 ≤ 1073758208) (b1 : 1 ≤ a1) (b1' : a1 ≤ 262143) (b2 : 1 ≤ a2) (m3 : s3.size ≤ 4096) (_m4 : s4.size ≤ 4096) (ht : a2 + ((s3.size : Int) + (2 + (s4.size : Int))) ≤ 16383) (he : eo = a0 + ((s3.size : Int) + (2 + (s4.size : Int)))) (hc : ec = a2 + ((s3.size : Int) + (2 + (s4.size : Int)))) :
    Calls Try.prog 72 #[.int .u32 a0, .int .u32 a1, .int .u32 a2, .string s3, .string s4, .string ByteArray.empty, .bool true, .bool true] w (Built132 w a0 (a1 * 16384 + a2) eo (a1 * 16384 + ec)) := by
  have HE := Lib.hid he
  have HC := Lib.hid hc
  clear he hc
  go_enter Try.func72, Try.ntmps72
  go_wp2_with (go_at_call 19; refine (litB3_eq _ _ _ _ _ (by omega) (by omega) (by omega) (by omega) (by omega) (by omega)).mono ?_; rintro e w' ⟨rfl, rfl⟩)
  go_ret
  refine gen_world (S := fun W => Bk W (w.heap.size + 1 + 1 + 1 + 1) 97 #[.int .u32 a0, .int .u32 (a1 * 16384 + a2), .int .u32 (a0 + (s3.size : Int)), .int .u32 (a1 * 16384 + (a2 + (s3.size : Int))), .string s3] ∧ Bk W (w.heap.size + 1 + 1 + 1 + 1 + 1 + 1 + 1 + 1 + 1 + 1) 97 #[.int .u32 (a0 + ((s3.size : Int) + 1)), .int .u32 (a1 * 16384 + (a2 + ((s3.size : Int) + 1))), .int .u32 (a0 + ((s3.size : Int) + 1) + (s4.size : Int)), .int .u32 (a1 * 16384 + (a2 + ((s3.size : Int) + 1) + (s4.size : Int))), .string s4] ∧ Bk W (w.heap.size + 1 + 1 + 1 + 1 + 1 + 1 + 1 + 1 + 1 + 1 + 1) 128 #[.iface 37 (.pointer (some ⟨w.heap.size + 1 + 1 + 1 + 1 + 1 + 1 + 1 + 1 + 1 + 1, 0, none⟩))] ∧ Bk W (w.heap.size + 1 + 1 + 1 + 1 + 1 + 1 + 1 + 1 + 1 + 1 + 1 + 1) 46 #[.slice (some ⟨w.heap.size + 1 + 1 + 1 + 1 + 1 + 1 + 1 + 1 + 1 + 1 + 1, 0, none⟩) 1 1] ∧ Bk W (w.heap.size + 1 + 1 + 1 + 1 + 1) 43 #[.bool false, .bool true, .pointer (some ⟨w.heap.size + 1 + 1 + 1 + 1, 0, none⟩), .iface 41 (.pointer (some ⟨w.heap.size + 1 + 1 + 1 + 1 + 1 + 1 + 1 + 1 + 1 + 1 + 1 + 1, 0, none⟩)), .pointer none, .pointer none] ∧ Below w.heap.size w W) ⟨(by repeat (first | (refine Bk.newAt ?_; simp; done) | refine Bk.alloc ?_ _ | refine Bk.drew ?_)), (by repeat (first | (refine Bk.newAt ?_; simp; done) | refine Bk.alloc ?_ _ | refine Bk.drew ?_)), (by repeat (first | (refine Bk.newAt ?_; simp; done) | refine Bk.alloc ?_ _ | refine Bk.drew ?_)), (by repeat (first | (refine Bk.newAt ?_; simp; done) | refine Bk.alloc ?_ _ | refine Bk.drew ?_)), (by repeat (first | (refine Bk.newAt ?_; simp; done) | refine Bk.alloc ?_ _ | refine Bk.drew ?_)), by go_grown⟩ ?_
  rintro W ⟨kN, kI, kIp, kIw, kA, hB⟩
  refine ⟨w.heap.size + 1 + 1 + 1 + 1 + 1, rfl, ⟨fun W1 hb => Assign_Pos_name (w.heap.size + 1 + 1 + 1 + 1 + 1) (w.heap.size + 1 + 1 + 1 + 1) a0 (a1 * 16384 + a2) W1 (by rw [(kA.keep hb).cells]; rfl) (by rw [(kN.keep hb).cells]; rfl) (by rw [(kN.keep hb).cells]; rfl), fun W1 hb => ?_⟩, hB⟩
  have kN := kN.keep hb
  have kI := kI.keep hb
  have kIp := kIp.keep hb
  have kIw := kIw.keep hb
  have kA := kA.keep hb
  have HE := HE.out
  have HC := HC.out
  have C := Assign_End_index_naked (w.heap.size + 1 + 1 + 1 + 1 + 1) (w.heap.size + 1 + 1 + 1 + 1 + 1 + 1 + 1 + 1 + 1 + 1 + 1 + 1) (a0 + ((s3.size : Int) + 1) + (s4.size : Int)) (a1 * 16384 + (a2 + ((s3.size : Int) + 1) + (s4.size : Int))) W1 (by rw [kA.cells]; rfl) (by rw [kA.cells]; rfl) (by rw [kA.cells]; rfl) (by rw [kA.cells]; rfl) (fun W1 hb1 => Word_End_lit (w.heap.size + 1 + 1 + 1 + 1 + 1 + 1 + 1 + 1 + 1 + 1 + 1 + 1) (w.heap.size + 1 + 1 + 1 + 1 + 1 + 1 + 1 + 1 + 1 + 1 + 1) 0 1 (w.heap.size + 1 + 1 + 1 + 1 + 1 + 1 + 1 + 1 + 1 + 1) (a0 + ((s3.size : Int) + 1) + (s4.size : Int)) (a1 * 16384 + (a2 + ((s3.size : Int) + 1) + (s4.size : Int))) W1 (by rw [(kIw.keep hb1).cells]; rfl) (by omega) (by rw [(kIp.keep hb1).cells]; rfl) (by rw [(kI.keep hb1).cells]; rfl) (by rw [(kI.keep hb1).cells]; rfl)) (by omega) (by omega) (by omega) (by omega)
  rw [addO_in (by omega) (by omega) (by omega) (by omega), addL_in (by omega) (by omega) (by omega) (by omega) (by omega)] at C
  have e1 : a0 + ((s3.size : Int) + 1) + (s4.size : Int) + 1 = eo := by omega
  have e2 : a2 + ((s3.size : Int) + 1) + (s4.size : Int) + 1 = ec := by omega
  rw [e1, e2] at C
  exact C
set_option maxHeartbeats 4000000 in
set_option maxRecDepth 100000 in
theorem bld_name (a0 a1 a2 eo ec : Int) (s3 s4 : ByteArray) (w : World) (b0 : 0 ≤ a0) (b0' : a0 ≤ 1073758208) (b1 : 1 ≤ a1) (b1' : a1 ≤ 262143) (b2 : 1 ≤ a2) (m3 : s3.size ≤ 4096) (_m4 : s4.size ≤ 4096) (ht : a2 + ((s3.size : Int) + 1) ≤ 16383) (he : eo = a0 + ((s3.size : Int) + 1)) (hc : ec = a2 + ((s3.size : Int) + 1)) :
    Calls Try.prog 72 #[.int .u32 a0, .int .u32 a1, .int .u32 a2, .string s3, .string s4, .string ByteArray.empty, .bool false, .bool false] w (Built132 w a0 (a1 * 16384 + a2) eo (a1 * 16384 + ec)) := by
  have HE := Lib.hid he
  have HC := Lib.hid hc
  clear he hc
  go_enter Try.func72, Try.ntmps72
  go_wp2_with (go_at_call 19; refine (litB3_eq _ _ _ _ _ (by omega) (by omega) (by omega) (by omega) (by omega) (by omega)).mono ?_; rintro e w' ⟨rfl, rfl⟩)
  go_ret
  refine gen_world (S := fun W => Bk W (w.heap.size + 1 + 1 + 1 + 1) 97 #[.int .u32 a0, .int .u32 (a1 * 16384 + a2), .int .u32 (a0 + (s3.size : Int)), .int .u32 (a1 * 16384 + (a2 + (s3.size : Int))), .string s3] ∧ Bk W (w.heap.size + 1 + 1 + 1 + 1 + 1) 43 #[.bool false, .bool false, .pointer (some ⟨w.heap.size + 1 + 1 + 1 + 1, 0, none⟩), .nilIface, .pointer none, .pointer none] ∧ Below w.heap.size w W) ⟨(by repeat (first | (refine Bk.newAt ?_; simp; done) | refine Bk.alloc ?_ _ | refine Bk.drew ?_)), (by repeat (first | (refine Bk.newAt ?_; simp; done) | refine Bk.alloc ?_ _ | refine Bk.drew ?_)), by go_grown⟩ ?_
  rintro W ⟨kN, kA, hB⟩
  refine ⟨w.heap.size + 1 + 1 + 1 + 1 + 1, rfl, ⟨fun W1 hb => Assign_Pos_name (w.heap.size + 1 + 1 + 1 + 1 + 1) (w.heap.size + 1 + 1 + 1 + 1) a0 (a1 * 16384 + a2) W1 (by rw [(kA.keep hb).cells]; rfl) (by rw [(kN.keep hb).cells]; rfl) (by rw [(kN.keep hb).cells]; rfl), fun W1 hb => ?_⟩, hB⟩
  have kN := kN.keep hb
  have kA := kA.keep hb
  have HE := HE.out
  have HC := HC.out
  have C := Assign_End_name (w.heap.size + 1 + 1 + 1 + 1 + 1) (w.heap.size + 1 + 1 + 1 + 1) (a0 + (s3.size : Int)) (a1 * 16384 + (a2 + (s3.size : Int))) W1 (by rw [kA.cells]; rfl) (by rw [kA.cells]; rfl) (by rw [kA.cells]; rfl) (by rw [kA.cells]; rfl) (by rw [kA.cells]; rfl) (by rw [kN.cells]; rfl) (by rw [kN.cells]; rfl) (by omega) (by omega) (by omega) (by omega)
  rw [addO_in (by omega) (by omega) (by omega) (by omega), addL_in (by omega) (by omega) (by omega) (by omega) (by omega)] at C
  have e1 : a0 + (s3.size : Int) + 1 = eo := by omega
  have e2 : a2 + (s3.size : Int) + 1 = ec := by omega
  rw [e1, e2] at C
  exact C
set_option maxHeartbeats 4000000 in
set_option maxRecDepth 100000 in
theorem bld_naked (a0 a1 a2 eo ec : Int) (s3 s4 : ByteArray) (w : World) (b0 : 0 ≤ a0) (b0' : a0 ≤ 1073758208) (b1 : 1 ≤ a1) (b1' : a1 ≤ 262143) (b2 : 1 ≤ a2) (m3 : s3.size ≤ 4096) (_m4 : s4.size ≤ 4096) (ht : a2 + ((s3.size : Int)) ≤ 16383) (he : eo = a0 + ((s3.size : Int))) (hc : ec = a2 + ((s3.size : Int))) :
    Calls Try.prog 72 #[.int .u32 a0, .int .u32 a1, .int .u32 a2, .string s3, .string s4, .string ByteArray.empty, .bool false, .bool true] w (Built132 w a0 (a1 * 16384 + a2) eo (a1 * 16384 + ec)) := by
  have HE := Lib.hid he
  have HC := Lib.hid hc
  clear he hc
  go_enter Try.func72, Try.ntmps72
  go_wp2_with (go_at_call 19; refine (litB3_eq _ _ _ _ _ (by omega) (by omega) (by omega) (by omega) (by omega) (by omega)).mono ?_; rintro e w' ⟨rfl, rfl⟩)
  go_ret
  refine gen_world (S := fun W => Bk W (w.heap.size + 1 + 1 + 1 + 1) 97 #[.int .u32 a0, .int .u32 (a1 * 16384 + a2), .int .u32 (a0 + (s3.size : Int)), .int .u32 (a1 * 16384 + (a2 + (s3.size : Int))), .string s3] ∧ Bk W (w.heap.size + 1 + 1 + 1 + 1 + 1) 43 #[.bool false, .bool true, .pointer (some ⟨w.heap.size + 1 + 1 + 1 + 1, 0, none⟩), .nilIface, .pointer none, .pointer none] ∧ Below w.heap.size w W) ⟨(by repeat (first | (refine Bk.newAt ?_; simp; done) | refine Bk.alloc ?_ _ | refine Bk.drew ?_)), (by repeat (first | (refine Bk.newAt ?_; simp; done) | refine Bk.alloc ?_ _ | refine Bk.drew ?_)), by go_grown⟩ ?_
  rintro W ⟨kN, kA, hB⟩
  refine ⟨w.heap.size + 1 + 1 + 1 + 1 + 1, rfl, ⟨fun W1 hb => Assign_Pos_name (w.heap.size + 1 + 1 + 1 + 1 + 1) (w.heap.size + 1 + 1 + 1 + 1) a0 (a1 * 16384 + a2) W1 (by rw [(kA.keep hb).cells]; rfl) (by rw [(kN.keep hb).cells]; rfl) (by rw [(kN.keep hb).cells]; rfl), fun W1 hb => ?_⟩, hB⟩
  have kN := kN.keep hb
  have kA := kA.keep hb
  have HE := HE.out
  have HC := HC.out
  have C := Assign_End_naked (w.heap.size + 1 + 1 + 1 + 1 + 1) (w.heap.size + 1 + 1 + 1 + 1) (a0 + (s3.size : Int)) (a1 * 16384 + (a2 + (s3.size : Int))) W1 (by rw [kA.cells]; rfl) (by rw [kA.cells]; rfl) (by rw [kA.cells]; rfl) (by rw [kA.cells]; rfl) (by rw [kA.cells]; rfl) (by rw [kN.cells]; rfl) (by rw [kN.cells]; rfl)
  have e1 : a0 + (s3.size : Int) = eo := by omega
  have e2 : a2 + (s3.size : Int) = ec := by omega
  rw [e1, e2] at C
  exact C
end Go.Proofs.Ytaampofbcbophaa
