/- The walk of FnAssignEndSpansItsText. -/
import Derived.Test.YtaampofbcbophaaAsnB
import Derived.OpenShut
namespace Go.Proofs.Ytaampofbcbophaa
open Go.RowKit
theorem offv_of {o o' : Int} (h : o ≤ 4294967284) (h2 : o = o') : offv o = o' := by
  subst h2
  unfold offv
  rw [if_neg (by omega)]
theorem addO_in {o lc n : Int} (h : o ≤ 4294967284) (h1 : lc ≠ 0) (h2 : 0 ≤ o + n) (h3 : o + n ≤ 4294967284) : addO o lc n = o + n := by
  unfold addO
  rw [if_pos (vld_mk h h1)]
  omega
theorem addL_in {o l c n : Int} (h : o ≤ 4294967284) (l0 : 0 ≤ l) (c0 : 1 ≤ c) (n0 : 0 ≤ n) (c1 : c + n ≤ 16383) : addL o (l * 16384 + c) n = l * 16384 + (c + n) := by
  unfold addL addC
  have e : (l * 16384 + c) % 16384 = c := by omega
  rw [if_pos (vld_mk h (by omega)), e, if_pos (by omega), if_neg (by omega)]
  omega
set_option maxHeartbeats 4000000 in
set_option maxRecDepth 100000 in
theorem asnEnd_arr (a0 a1 a2 : Int) (s3 s4 : ByteArray) (a9 : Int) (w : World) (b0 : 0 ≤ a0) (b0' : a0 ≤ 1073741824) (b1 : 1 ≤ a1) (b1' : a1 ≤ 262143) (b2 : 1 ≤ a2) (n3 : 1 ≤ s3.size) (m3 : s3.size ≤ 4096) (m4 : s4.size ≤ 4096) (q0 : 0 ≤ a9) (q1 : a9 ≤ 4096) (ht : a2 + ((s3.size : Int) + 1 + (2 + a9)) ≤ 16383) :
    Calls Try.prog 4 #[.int .u32 a0, .int .u32 a1, .int .u32 a2, .string s3, .string s4, .string ByteArray.empty, .bool false, .bool false, .bool true, .int .i64 a9] w fun e w' => e = .returned (.bool true) ∧ Below w.heap.size w w' := by
  have z3 : ((s3.size : Int) == 0) = false := beq_eq_false_iff_ne.2 (by omega)
  go_enter Try.func4, Try.ntmps4
  go_wp2_with fail
  refine (zzBytes132_any _ _ _ _ _ _ _ _ _ _ _ (by omega) (by omega) (by first | omega | decide)).mono ?_
  rintro e w' ⟨b, rfl, rfl⟩
  cases b
  · go_wp2
    go_ret
    exact ⟨rfl, Below.refl _ _⟩
  go_wp2_with (first | (go_at_call 19; refine (litB3_eq _ _ _ _ _ (by omega) (by omega) (by omega) (by omega) (by omega) (by omega)).mono ?_; rintro e w' ⟨rfl, rfl⟩) | (go_at_call 20; refine (mkPos132_eq _ _ _ _ (by omega) (by omega) (by omega) (by omega)).mono ?_; rintro e w' ⟨rfl, rfl⟩))
  refine calls_gen (S := fun W => Bk W (w.heap.size + 1 + 1 + 1 + 1) 97 #[.int .u32 a0, .int .u32 (a1 * 16384 + a2), .int .u32 (a0 + (s3.size : Int)), .int .u32 (a1 * 16384 + (a2 + (s3.size : Int))), .string s3] ∧ Bk W (w.heap.size + 1 + 1 + 1 + 1 + 1 + 1 + 1 + 1 + 1 + 1 + 1 + 1) 30 #[.int .u32 (a0 + ((s3.size : Int) + 1)), .int .u32 (a1 * 16384 + (a2 + ((s3.size : Int) + 1))), .int .u32 (a0 + ((s3.size : Int) + 1 + (1 + a9))), .int .u32 (a1 * 16384 + (a2 + ((s3.size : Int) + 1 + (1 + a9)))), .slice none 0 0, .slice none 0 0] ∧ Bk W (w.heap.size + 1 + 1 + 1 + 1 + 1) 43 #[.bool false, .bool false, .pointer (some ⟨w.heap.size + 1 + 1 + 1 + 1, 0, none⟩), .nilIface, .pointer none, .pointer (some ⟨w.heap.size + 1 + 1 + 1 + 1 + 1 + 1 + 1 + 1 + 1 + 1 + 1 + 1, 0, none⟩)] ∧ Below w.heap.size w W) ⟨(by repeat (first | (refine Bk.newAt ?_; simp; done) | refine Bk.alloc ?_ _ | refine Bk.drew ?_)), (by repeat (first | (refine Bk.newAt ?_; simp; done) | refine Bk.alloc ?_ _ | refine Bk.drew ?_)), (by repeat (first | (refine Bk.newAt ?_; simp; done) | refine Bk.alloc ?_ _ | refine Bk.drew ?_)), by go_grown⟩ ?_
  rintro W ⟨kN, kR, kA, hB⟩
  refine (Assign_Pos_name (w.heap.size + 1 + 1 + 1 + 1 + 1) (w.heap.size + 1 + 1 + 1 + 1) a0 (a1 * 16384 + a2) W (by rw [kA.cells]; rfl) (by rw [kN.cells]; rfl) (by rw [kN.cells]; rfl)).mono ?_
  rintro e v1 ⟨rfl, hb⟩
  have kNh := Lib.hid ((kN.keep hb).alloc (.cells #[.int .u32 a0, .int .u32 (a1 * 16384 + a2)] 24))
  have kRh := Lib.hid ((kR.keep hb).alloc (.cells #[.int .u32 a0, .int .u32 (a1 * 16384 + a2)] 24))
  have kAh := Lib.hid ((kA.keep hb).alloc (.cells #[.int .u32 a0, .int .u32 (a1 * 16384 + a2)] 24))
  have hB := bmore hB hb
  clear hb kN kR kA
  go_wp2_with fail
  have C := Assign_End_array (w.heap.size + 1 + 1 + 1 + 1 + 1) (w.heap.size + 1 + 1 + 1 + 1 + 1 + 1 + 1 + 1 + 1 + 1 + 1 + 1) (a0 + ((s3.size : Int) + 1 + (1 + a9))) (a1 * 16384 + (a2 + ((s3.size : Int) + 1 + (1 + a9)))) _ (by rw [kAh.out.cells]; rfl) (by rw [kAh.out.cells]; rfl) (by rw [kRh.out.cells]; rfl) (by rw [kRh.out.cells]; rfl) (by omega) (by omega) (by omega) (by omega)
  rw [addO_in (by omega) (by omega) (by omega) (by omega), addL_in (by omega) (by omega) (by omega) (by omega) (by omega)] at C
  refine C.mono ?_
  clear C
  rintro e v2 ⟨rfl, hb⟩
  have kP := (Bk.fresh _ _ _).keep hb
  have hB := bmore (w := w) ((hB.trans ((Below.refl _ _).alloc (Nat.le_refl _) _ |>.mono hB.size))) hb
  clear hb kNh kRh kAh
  have cP := kP.cells
  have lP := kP.lt
  go_wp2_with fail
  refine (posIs132_any _ _ _ _ _ _ (by omega) (by omega) (by omega) (by omega) (offv_of (by omega) (by omega)) (by omega) (by omega)).mono ?_
  rintro e v3 ⟨rfl, hb⟩
  have kE := (Bk.fresh _ _ _).keep hb
  have hB := bmore (w := w) ((hB.trans ((Below.refl _ _).alloc (Nat.le_refl _) _ |>.mono hB.size))) hb
  clear hb cP kP lP
  have cE := kE.cells
  go_wp2_with fail
  refine (posIs132_any _ _ _ _ _ _ (by omega) (by omega) (by omega) (by omega) (offv_of (by omega) (by omega)) (by omega) (by omega)).mono ?_
  rintro e v4 ⟨rfl, hb⟩
  have hB := bmore hB hb
  clear hb cE kE
  go_wp2
  go_ret
  exact ⟨rfl, hB⟩
set_option maxHeartbeats 4000000 in
set_option maxRecDepth 100000 in
theorem asnEnd_val (a0 a1 a2 : Int) (s3 s4 s5 : ByteArray) (a9 : Int) (w : World) (b0 : 0 ≤ a0) (b0' : a0 ≤ 1073741824) (b1 : 1 ≤ a1) (b1' : a1 ≤ 262143) (b2 : 1 ≤ a2) (n3 : 1 ≤ s3.size) (m3 : s3.size ≤ 4096) (m4 : s4.size ≤ 4096) (q0 : 0 ≤ a9) (q1 : a9 ≤ 4096) (n5 : 1 ≤ s5.size) (m5 : s5.size ≤ 4096) (ht : a2 + ((s3.size : Int) + 1 + (s5.size : Int)) ≤ 16383) :
    Calls Try.prog 4 #[.int .u32 a0, .int .u32 a1, .int .u32 a2, .string s3, .string s4, .string s5, .bool false, .bool false, .bool false, .int .i64 a9] w fun e w' => e = .returned (.bool true) ∧ Below w.heap.size w w' := by
  have z3 : ((s3.size : Int) == 0) = false := beq_eq_false_iff_ne.2 (by omega)
  have z5 : ((s5.size : Int) != 0) = true := bne_iff_ne.2 (by omega)
  have z5' : (0 : Int) < (s5.size : Int) := by omega
  go_enter Try.func4, Try.ntmps4
  go_wp2_with fail
  refine (zzBytes132_any _ _ _ _ _ _ _ _ _ _ _ (by omega) (by omega) (by first | omega | decide)).mono ?_
  rintro e w' ⟨b, rfl, rfl⟩
  cases b
  · go_wp2
    go_ret
    exact ⟨rfl, Below.refl _ _⟩
  go_wp2_with (first | (go_at_call 19; refine (litB3_eq _ _ _ _ _ (by omega) (by omega) (by omega) (by omega) (by omega) (by omega)).mono ?_; rintro e w' ⟨rfl, rfl⟩) | (go_at_call 20; refine (mkPos132_eq _ _ _ _ (by omega) (by omega) (by omega) (by omega)).mono ?_; rintro e w' ⟨rfl, rfl⟩))
  refine calls_gen (S := fun W => Bk W (w.heap.size + 1 + 1 + 1 + 1) 97 #[.int .u32 a0, .int .u32 (a1 * 16384 + a2), .int .u32 (a0 + (s3.size : Int)), .int .u32 (a1 * 16384 + (a2 + (s3.size : Int))), .string s3] ∧ Bk W (w.heap.size + 1 + 1 + 1 + 1 + 1 + 1 + 1 + 1 + 1 + 1) 97 #[.int .u32 (a0 + ((s3.size : Int) + 1)), .int .u32 (a1 * 16384 + (a2 + ((s3.size : Int) + 1))), .int .u32 (a0 + ((s3.size : Int) + 1) + (s5.size : Int)), .int .u32 (a1 * 16384 + (a2 + ((s3.size : Int) + 1) + (s5.size : Int))), .string s5] ∧ Bk W (w.heap.size + 1 + 1 + 1 + 1 + 1 + 1 + 1 + 1 + 1 + 1 + 1) 128 #[.iface 37 (.pointer (some ⟨w.heap.size + 1 + 1 + 1 + 1 + 1 + 1 + 1 + 1 + 1 + 1, 0, none⟩))] ∧ Bk W (w.heap.size + 1 + 1 + 1 + 1 + 1 + 1 + 1 + 1 + 1 + 1 + 1 + 1) 46 #[.slice (some ⟨w.heap.size + 1 + 1 + 1 + 1 + 1 + 1 + 1 + 1 + 1 + 1 + 1, 0, none⟩) 1 1] ∧ Bk W (w.heap.size + 1 + 1 + 1 + 1 + 1) 43 #[.bool false, .bool false, .pointer (some ⟨w.heap.size + 1 + 1 + 1 + 1, 0, none⟩), .nilIface, .pointer (some ⟨w.heap.size + 1 + 1 + 1 + 1 + 1 + 1 + 1 + 1 + 1 + 1 + 1 + 1, 0, none⟩), .pointer none] ∧ Below w.heap.size w W) ⟨(by repeat (first | (refine Bk.newAt ?_; simp; done) | refine Bk.alloc ?_ _ | refine Bk.drew ?_)), (by repeat (first | (refine Bk.newAt ?_; simp; done) | refine Bk.alloc ?_ _ | refine Bk.drew ?_)), (by repeat (first | (refine Bk.newAt ?_; simp; done) | refine Bk.alloc ?_ _ | refine Bk.drew ?_)), (by repeat (first | (refine Bk.newAt ?_; simp; done) | refine Bk.alloc ?_ _ | refine Bk.drew ?_)), (by repeat (first | (refine Bk.newAt ?_; simp; done) | refine Bk.alloc ?_ _ | refine Bk.drew ?_)), by go_grown⟩ ?_
  rintro W ⟨kN, kV, kVp, kVw, kA, hB⟩
  refine (Assign_Pos_name (w.heap.size + 1 + 1 + 1 + 1 + 1) (w.heap.size + 1 + 1 + 1 + 1) a0 (a1 * 16384 + a2) W (by rw [kA.cells]; rfl) (by rw [kN.cells]; rfl) (by rw [kN.cells]; rfl)).mono ?_
  rintro e v1 ⟨rfl, hb⟩
  have kNh := Lib.hid ((kN.keep hb).alloc (.cells #[.int .u32 a0, .int .u32 (a1 * 16384 + a2)] 24))
  have kVh := Lib.hid ((kV.keep hb).alloc (.cells #[.int .u32 a0, .int .u32 (a1 * 16384 + a2)] 24))
  have kVph := Lib.hid ((kVp.keep hb).alloc (.cells #[.int .u32 a0, .int .u32 (a1 * 16384 + a2)] 24))
  have kVwh := Lib.hid ((kVw.keep hb).alloc (.cells #[.int .u32 a0, .int .u32 (a1 * 16384 + a2)] 24))
  have kAh := Lib.hid ((kA.keep hb).alloc (.cells #[.int .u32 a0, .int .u32 (a1 * 16384 + a2)] 24))
  have hB := bmore hB hb
  clear hb kN kV kVp kVw kA
  go_wp2_with fail
  have C := Assign_End_value (w.heap.size + 1 + 1 + 1 + 1 + 1) (w.heap.size + 1 + 1 + 1 + 1 + 1 + 1 + 1 + 1 + 1 + 1 + 1 + 1) (a0 + ((s3.size : Int) + 1) + (s5.size : Int)) (a1 * 16384 + (a2 + ((s3.size : Int) + 1) + (s5.size : Int))) _ (by rw [kAh.out.cells]; rfl) (fun W1 hb1 => Word_End_lit (w.heap.size + 1 + 1 + 1 + 1 + 1 + 1 + 1 + 1 + 1 + 1 + 1 + 1) (w.heap.size + 1 + 1 + 1 + 1 + 1 + 1 + 1 + 1 + 1 + 1 + 1) 0 1 (w.heap.size + 1 + 1 + 1 + 1 + 1 + 1 + 1 + 1 + 1 + 1) (a0 + ((s3.size : Int) + 1) + (s5.size : Int)) (a1 * 16384 + (a2 + ((s3.size : Int) + 1) + (s5.size : Int))) W1 (by rw [(kVwh.out.keep hb1).cells]; rfl) (by omega) (by rw [(kVph.out.keep hb1).cells]; rfl) (by rw [(kVh.out.keep hb1).cells]; rfl) (by rw [(kVh.out.keep hb1).cells]; rfl))
  refine C.mono ?_
  clear C
  rintro e v2 ⟨rfl, hb⟩
  have kP := (Bk.fresh _ _ _).keep hb
  have hB := bmore (w := w) ((hB.trans ((Below.refl _ _).alloc (Nat.le_refl _) _ |>.mono hB.size))) hb
  clear hb kNh kVh kVph kVwh kAh
  have cP := kP.cells
  have lP := kP.lt
  go_wp2_with fail
  refine (posIs132_any _ _ _ _ _ _ (by omega) (by omega) (by omega) (by omega) (offv_of (by omega) (by omega)) (by omega) (by omega)).mono ?_
  rintro e v3 ⟨rfl, hb⟩
  have kE := (Bk.fresh _ _ _).keep hb
  have hB := bmore (w := w) ((hB.trans ((Below.refl _ _).alloc (Nat.le_refl _) _ |>.mono hB.size))) hb
  clear hb cP kP lP
  have cE := kE.cells
  go_wp2_with fail
  refine (posIs132_any _ _ _ _ _ _ (by omega) (by omega) (by omega) (by omega) (offv_of (by omega) (by omega)) (by omega) (by omega)).mono ?_
  rintro e v4 ⟨rfl, hb⟩
  have hB := bmore hB hb
  clear hb cE kE
  go_wp2
  go_ret
  exact ⟨rfl, hB⟩
set_option maxHeartbeats 4000000 in
set_option maxRecDepth 100000 in
theorem asnEnd_ival (a0 a1 a2 : Int) (s3 s4 s5 : ByteArray) (a9 : Int) (w : World) (b0 : 0 ≤ a0) (b0' : a0 ≤ 1073741824) (b1 : 1 ≤ a1) (b1' : a1 ≤ 262143) (b2 : 1 ≤ a2) (n3 : 1 ≤ s3.size) (m3 : s3.size ≤ 4096) (m4 : s4.size ≤ 4096) (q0 : 0 ≤ a9) (q1 : a9 ≤ 4096) (n5 : 1 ≤ s5.size) (m5 : s5.size ≤ 4096) (n4 : 1 ≤ s4.size) (ht : a2 + ((s3.size : Int) + (2 + (s4.size : Int)) + 1 + (s5.size : Int)) ≤ 16383) :
    Calls Try.prog 4 #[.int .u32 a0, .int .u32 a1, .int .u32 a2, .string s3, .string s4, .string s5, .bool true, .bool false, .bool false, .int .i64 a9] w fun e w' => e = .returned (.bool true) ∧ Below w.heap.size w w' := by
  have z3 : ((s3.size : Int) == 0) = false := beq_eq_false_iff_ne.2 (by omega)
  have z4 : ((s4.size : Int) == 0) = false := beq_eq_false_iff_ne.2 (by omega)
  have z5 : ((s5.size : Int) != 0) = true := bne_iff_ne.2 (by omega)
  have z5' : (0 : Int) < (s5.size : Int) := by omega
  go_enter Try.func4, Try.ntmps4
  go_wp2_with fail
  refine (zzBytes132_any _ _ _ _ _ _ _ _ _ _ _ (by omega) (by omega) (by first | omega | decide)).mono ?_
  rintro e w' ⟨b, rfl, rfl⟩
  cases b
  · go_wp2
    go_ret
    exact ⟨rfl, Below.refl _ _⟩
  go_wp2_with (first | (go_at_call 19; refine (litB3_eq _ _ _ _ _ (by omega) (by omega) (by omega) (by omega) (by omega) (by omega)).mono ?_; rintro e w' ⟨rfl, rfl⟩) | (go_at_call 20; refine (mkPos132_eq _ _ _ _ (by omega) (by omega) (by omega) (by omega)).mono ?_; rintro e w' ⟨rfl, rfl⟩))
  refine calls_gen (S := fun W => Bk W (w.heap.size + 1 + 1 + 1 + 1) 97 #[.int .u32 a0, .int .u32 (a1 * 16384 + a2), .int .u32 (a0 + (s3.size : Int)), .int .u32 (a1 * 16384 + (a2 + (s3.size : Int))), .string s3] ∧ Bk W (w.heap.size + 1 + 1 + 1 + 1 + 1 + 1 + 1 + 1 + 1 + 1) 97 #[.int .u32 (a0 + ((s3.size : Int) + 1)), .int .u32 (a1 * 16384 + (a2 + ((s3.size : Int) + 1))), .int .u32 (a0 + ((s3.size : Int) + 1) + (s4.size : Int)), .int .u32 (a1 * 16384 + (a2 + ((s3.size : Int) + 1) + (s4.size : Int))), .string s4] ∧ Bk W (w.heap.size + 1 + 1 + 1 + 1 + 1 + 1 + 1 + 1 + 1 + 1 + 1) 128 #[.iface 37 (.pointer (some ⟨w.heap.size + 1 + 1 + 1 + 1 + 1 + 1 + 1 + 1 + 1 + 1, 0, none⟩))] ∧ Bk W (w.heap.size + 1 + 1 + 1 + 1 + 1 + 1 + 1 + 1 + 1 + 1 + 1 + 1) 46 #[.slice (some ⟨w.heap.size + 1 + 1 + 1 + 1 + 1 + 1 + 1 + 1 + 1 + 1 + 1, 0, none⟩) 1 1] ∧ Bk W (w.heap.size + 1 + 1 + 1 + 1 + 1 + 1 + 1 + 1 + 1 + 1 + 1 + 1 + 1 + 1 + 1 + 1 + 1) 97 #[.int .u32 (a0 + ((s3.size : Int) + 1 + (s4.size : Int) + 1 + 1)), .int .u32 (a1 * 16384 + (a2 + ((s3.size : Int) + 1 + (s4.size : Int) + 1 + 1))), .int .u32 (a0 + ((s3.size : Int) + 1 + (s4.size : Int) + 1 + 1) + (s5.size : Int)), .int .u32 (a1 * 16384 + (a2 + ((s3.size : Int) + 1 + (s4.size : Int) + 1 + 1) + (s5.size : Int))), .string s5] ∧ Bk W (w.heap.size + 1 + 1 + 1 + 1 + 1 + 1 + 1 + 1 + 1 + 1 + 1 + 1 + 1 + 1 + 1 + 1 + 1 + 1) 128 #[.iface 37 (.pointer (some ⟨w.heap.size + 1 + 1 + 1 + 1 + 1 + 1 + 1 + 1 + 1 + 1 + 1 + 1 + 1 + 1 + 1 + 1 + 1, 0, none⟩))] ∧ Bk W (w.heap.size + 1 + 1 + 1 + 1 + 1 + 1 + 1 + 1 + 1 + 1 + 1 + 1 + 1 + 1 + 1 + 1 + 1 + 1 + 1) 46 #[.slice (some ⟨w.heap.size + 1 + 1 + 1 + 1 + 1 + 1 + 1 + 1 + 1 + 1 + 1 + 1 + 1 + 1 + 1 + 1 + 1 + 1, 0, none⟩) 1 1] ∧ Bk W (w.heap.size + 1 + 1 + 1 + 1 + 1) 43 #[.bool false, .bool false, .pointer (some ⟨w.heap.size + 1 + 1 + 1 + 1, 0, none⟩), .iface 41 (.pointer (some ⟨w.heap.size + 1 + 1 + 1 + 1 + 1 + 1 + 1 + 1 + 1 + 1 + 1 + 1, 0, none⟩)), .pointer (some ⟨w.heap.size + 1 + 1 + 1 + 1 + 1 + 1 + 1 + 1 + 1 + 1 + 1 + 1 + 1 + 1 + 1 + 1 + 1 + 1 + 1, 0, none⟩), .pointer none] ∧ Below w.heap.size w W) ⟨(by repeat (first | (refine Bk.newAt ?_; simp; done) | refine Bk.alloc ?_ _ | refine Bk.drew ?_)), (by repeat (first | (refine Bk.newAt ?_; simp; done) | refine Bk.alloc ?_ _ | refine Bk.drew ?_)), (by repeat (first | (refine Bk.newAt ?_; simp; done) | refine Bk.alloc ?_ _ | refine Bk.drew ?_)), (by repeat (first | (refine Bk.newAt ?_; simp; done) | refine Bk.alloc ?_ _ | refine Bk.drew ?_)), (by repeat (first | (refine Bk.newAt ?_; simp; done) | refine Bk.alloc ?_ _ | refine Bk.drew ?_)), (by repeat (first | (refine Bk.newAt ?_; simp; done) | refine Bk.alloc ?_ _ | refine Bk.drew ?_)), (by repeat (first | (refine Bk.newAt ?_; simp; done) | refine Bk.alloc ?_ _ | refine Bk.drew ?_)), (by repeat (first | (refine Bk.newAt ?_; simp; done) | refine Bk.alloc ?_ _ | refine Bk.drew ?_)), by go_grown⟩ ?_
  rintro W ⟨kN, kI, kIp, kIw, kV, kVp, kVw, kA, hB⟩
  refine (Assign_Pos_name (w.heap.size + 1 + 1 + 1 + 1 + 1) (w.heap.size + 1 + 1 + 1 + 1) a0 (a1 * 16384 + a2) W (by rw [kA.cells]; rfl) (by rw [kN.cells]; rfl) (by rw [kN.cells]; rfl)).mono ?_
  rintro e v1 ⟨rfl, hb⟩
  have kNh := Lib.hid ((kN.keep hb).alloc (.cells #[.int .u32 a0, .int .u32 (a1 * 16384 + a2)] 24))
  have kIh := Lib.hid ((kI.keep hb).alloc (.cells #[.int .u32 a0, .int .u32 (a1 * 16384 + a2)] 24))
  have kIph := Lib.hid ((kIp.keep hb).alloc (.cells #[.int .u32 a0, .int .u32 (a1 * 16384 + a2)] 24))
  have kIwh := Lib.hid ((kIw.keep hb).alloc (.cells #[.int .u32 a0, .int .u32 (a1 * 16384 + a2)] 24))
  have kVh := Lib.hid ((kV.keep hb).alloc (.cells #[.int .u32 a0, .int .u32 (a1 * 16384 + a2)] 24))
  have kVph := Lib.hid ((kVp.keep hb).alloc (.cells #[.int .u32 a0, .int .u32 (a1 * 16384 + a2)] 24))
  have kVwh := Lib.hid ((kVw.keep hb).alloc (.cells #[.int .u32 a0, .int .u32 (a1 * 16384 + a2)] 24))
  have kAh := Lib.hid ((kA.keep hb).alloc (.cells #[.int .u32 a0, .int .u32 (a1 * 16384 + a2)] 24))
  have hB := bmore hB hb
  clear hb kN kI kIp kIw kV kVp kVw kA
  go_wp2_with fail
  have C := Assign_End_value (w.heap.size + 1 + 1 + 1 + 1 + 1) (w.heap.size + 1 + 1 + 1 + 1 + 1 + 1 + 1 + 1 + 1 + 1 + 1 + 1 + 1 + 1 + 1 + 1 + 1 + 1 + 1) (a0 + ((s3.size : Int) + 1 + (s4.size : Int) + 1 + 1) + (s5.size : Int)) (a1 * 16384 + (a2 + ((s3.size : Int) + 1 + (s4.size : Int) + 1 + 1) + (s5.size : Int))) _ (by rw [kAh.out.cells]; rfl) (fun W1 hb1 => Word_End_lit (w.heap.size + 1 + 1 + 1 + 1 + 1 + 1 + 1 + 1 + 1 + 1 + 1 + 1 + 1 + 1 + 1 + 1 + 1 + 1 + 1) (w.heap.size + 1 + 1 + 1 + 1 + 1 + 1 + 1 + 1 + 1 + 1 + 1 + 1 + 1 + 1 + 1 + 1 + 1 + 1) 0 1 (w.heap.size + 1 + 1 + 1 + 1 + 1 + 1 + 1 + 1 + 1 + 1 + 1 + 1 + 1 + 1 + 1 + 1 + 1) (a0 + ((s3.size : Int) + 1 + (s4.size : Int) + 1 + 1) + (s5.size : Int)) (a1 * 16384 + (a2 + ((s3.size : Int) + 1 + (s4.size : Int) + 1 + 1) + (s5.size : Int))) W1 (by rw [(kVwh.out.keep hb1).cells]; rfl) (by omega) (by rw [(kVph.out.keep hb1).cells]; rfl) (by rw [(kVh.out.keep hb1).cells]; rfl) (by rw [(kVh.out.keep hb1).cells]; rfl))
  refine C.mono ?_
  clear C
  rintro e v2 ⟨rfl, hb⟩
  have kP := (Bk.fresh _ _ _).keep hb
  have hB := bmore (w := w) ((hB.trans ((Below.refl _ _).alloc (Nat.le_refl _) _ |>.mono hB.size))) hb
  clear hb kNh kIh kIph kIwh kVh kVph kVwh kAh
  have cP := kP.cells
  have lP := kP.lt
  go_wp2_with fail
  refine (posIs132_any _ _ _ _ _ _ (by omega) (by omega) (by omega) (by omega) (offv_of (by omega) (by omega)) (by omega) (by omega)).mono ?_
  rintro e v3 ⟨rfl, hb⟩
  have kE := (Bk.fresh _ _ _).keep hb
  have hB := bmore (w := w) ((hB.trans ((Below.refl _ _).alloc (Nat.le_refl _) _ |>.mono hB.size))) hb
  clear hb cP kP lP
  have cE := kE.cells
  go_wp2_with fail
  refine (posIs132_any _ _ _ _ _ _ (by omega) (by omega) (by omega) (by omega) (offv_of (by omega) (by omega)) (by omega) (by omega)).mono ?_
  rintro e v4 ⟨rfl, hb⟩
  have hB := bmore hB hb
  clear hb cE kE
  go_wp2
  go_ret
  exact ⟨rfl, hB⟩
set_option maxHeartbeats 4000000 in
set_option maxRecDepth 100000 in
theorem asnEnd_idx (a0 a1 a2 : Int) (s3 s4 : ByteArray) (a9 : Int) (w : World) (b0 : 0 ≤ a0) (b0' : a0 ≤ 1073741824) (b1 : 1 ≤ a1) (b1' : a1 ≤ 262143) (b2 : 1 ≤ a2) (n3 : 1 ≤ s3.size) (m3 : s3.size ≤ 4096) (m4 : s4.size ≤ 4096) (q0 : 0 ≤ a9) (q1 : a9 ≤ 4096) (n4 : 1 ≤ s4.size) (ht : a2 + ((s3.size : Int) + (2 + (s4.size : Int)) + 1) ≤ 16383) :
    Calls Try.prog 4 #[.int .u32 a0, .int .u32 a1, .int .u32 a2, .string s3, .string s4, .string ByteArray.empty, .bool true, .bool false, .bool false, .int .i64 a9] w fun e w' => e = .returned (.bool true) ∧ Below w.heap.size w w' := by
  have z3 : ((s3.size : Int) == 0) = false := beq_eq_false_iff_ne.2 (by omega)
  have z4 : ((s4.size : Int) == 0) = false := beq_eq_false_iff_ne.2 (by omega)
  go_enter Try.func4, Try.ntmps4
  go_wp2_with fail
  refine (zzBytes132_any _ _ _ _ _ _ _ _ _ _ _ (by omega) (by omega) (by first | omega | decide)).mono ?_
  rintro e w' ⟨b, rfl, rfl⟩
  cases b
  · go_wp2
    go_ret
    exact ⟨rfl, Below.refl _ _⟩
  go_wp2_with (first | (go_at_call 19; refine (litB3_eq _ _ _ _ _ (by omega) (by omega) (by omega) (by omega) (by omega) (by omega)).mono ?_; rintro e w' ⟨rfl, rfl⟩) | (go_at_call 20; refine (mkPos132_eq _ _ _ _ (by omega) (by omega) (by omega) (by omega)).mono ?_; rintro e w' ⟨rfl, rfl⟩))
  refine calls_gen (S := fun W => Bk W (w.heap.size + 1 + 1 + 1 + 1) 97 #[.int .u32 a0, .int .u32 (a1 * 16384 + a2), .int .u32 (a0 + (s3.size : Int)), .int .u32 (a1 * 16384 + (a2 + (s3.size : Int))), .string s3] ∧ Bk W (w.heap.size + 1 + 1 + 1 + 1 + 1 + 1 + 1 + 1 + 1 + 1) 97 #[.int .u32 (a0 + ((s3.size : Int) + 1)), .int .u32 (a1 * 16384 + (a2 + ((s3.size : Int) + 1))), .int .u32 (a0 + ((s3.size : Int) + 1) + (s4.size : Int)), .int .u32 (a1 * 16384 + (a2 + ((s3.size : Int) + 1) + (s4.size : Int))), .string s4] ∧ Bk W (w.heap.size + 1 + 1 + 1 + 1 + 1 + 1 + 1 + 1 + 1 + 1 + 1) 128 #[.iface 37 (.pointer (some ⟨w.heap.size + 1 + 1 + 1 + 1 + 1 + 1 + 1 + 1 + 1 + 1, 0, none⟩))] ∧ Bk W (w.heap.size + 1 + 1 + 1 + 1 + 1 + 1 + 1 + 1 + 1 + 1 + 1 + 1) 46 #[.slice (some ⟨w.heap.size + 1 + 1 + 1 + 1 + 1 + 1 + 1 + 1 + 1 + 1 + 1, 0, none⟩) 1 1] ∧ Bk W (w.heap.size + 1 + 1 + 1 + 1 + 1) 43 #[.bool false, .bool false, .pointer (some ⟨w.heap.size + 1 + 1 + 1 + 1, 0, none⟩), .iface 41 (.pointer (some ⟨w.heap.size + 1 + 1 + 1 + 1 + 1 + 1 + 1 + 1 + 1 + 1 + 1 + 1, 0, none⟩)), .pointer none, .pointer none] ∧ Below w.heap.size w W) ⟨(by repeat (first | (refine Bk.newAt ?_; simp; done) | refine Bk.alloc ?_ _ | refine Bk.drew ?_)), (by repeat (first | (refine Bk.newAt ?_; simp; done) | refine Bk.alloc ?_ _ | refine Bk.drew ?_)), (by repeat (first | (refine Bk.newAt ?_; simp; done) | refine Bk.alloc ?_ _ | refine Bk.drew ?_)), (by repeat (first | (refine Bk.newAt ?_; simp; done) | refine Bk.alloc ?_ _ | refine Bk.drew ?_)), (by repeat (first | (refine Bk.newAt ?_; simp; done) | refine Bk.alloc ?_ _ | refine Bk.drew ?_)), by go_grown⟩ ?_
  rintro W ⟨kN, kI, kIp, kIw, kA, hB⟩
  refine (Assign_Pos_name (w.heap.size + 1 + 1 + 1 + 1 + 1) (w.heap.size + 1 + 1 + 1 + 1) a0 (a1 * 16384 + a2) W (by rw [kA.cells]; rfl) (by rw [kN.cells]; rfl) (by rw [kN.cells]; rfl)).mono ?_
  rintro e v1 ⟨rfl, hb⟩
  have kNh := Lib.hid ((kN.keep hb).alloc (.cells #[.int .u32 a0, .int .u32 (a1 * 16384 + a2)] 24))
  have kIh := Lib.hid ((kI.keep hb).alloc (.cells #[.int .u32 a0, .int .u32 (a1 * 16384 + a2)] 24))
  have kIph := Lib.hid ((kIp.keep hb).alloc (.cells #[.int .u32 a0, .int .u32 (a1 * 16384 + a2)] 24))
  have kIwh := Lib.hid ((kIw.keep hb).alloc (.cells #[.int .u32 a0, .int .u32 (a1 * 16384 + a2)] 24))
  have kAh := Lib.hid ((kA.keep hb).alloc (.cells #[.int .u32 a0, .int .u32 (a1 * 16384 + a2)] 24))
  have hB := bmore hB hb
  clear hb kN kI kIp kIw kA
  go_wp2_with fail
  have C := Assign_End_index (w.heap.size + 1 + 1 + 1 + 1 + 1) (w.heap.size + 1 + 1 + 1 + 1 + 1 + 1 + 1 + 1 + 1 + 1 + 1 + 1) (a0 + ((s3.size : Int) + 1) + (s4.size : Int)) (a1 * 16384 + (a2 + ((s3.size : Int) + 1) + (s4.size : Int))) _ (by rw [kAh.out.cells]; rfl) (by rw [kAh.out.cells]; rfl) (by rw [kAh.out.cells]; rfl) (by rw [kAh.out.cells]; rfl) (fun W1 hb1 => Word_End_lit (w.heap.size + 1 + 1 + 1 + 1 + 1 + 1 + 1 + 1 + 1 + 1 + 1 + 1) (w.heap.size + 1 + 1 + 1 + 1 + 1 + 1 + 1 + 1 + 1 + 1 + 1) 0 1 (w.heap.size + 1 + 1 + 1 + 1 + 1 + 1 + 1 + 1 + 1 + 1) (a0 + ((s3.size : Int) + 1) + (s4.size : Int)) (a1 * 16384 + (a2 + ((s3.size : Int) + 1) + (s4.size : Int))) W1 (by rw [(kIwh.out.keep hb1).cells]; rfl) (by omega) (by rw [(kIph.out.keep hb1).cells]; rfl) (by rw [(kIh.out.keep hb1).cells]; rfl) (by rw [(kIh.out.keep hb1).cells]; rfl)) (by omega) (by omega) (by omega) (by omega)
  rw [addO_in (by omega) (by omega) (by omega) (by omega), addL_in (by omega) (by omega) (by omega) (by omega) (by omega)] at C
  refine C.mono ?_
  clear C
  rintro e v2 ⟨rfl, hb⟩
  have kP := (Bk.fresh _ _ _).keep hb
  have hB := bmore (w := w) ((hB.trans ((Below.refl _ _).alloc (Nat.le_refl _) _ |>.mono hB.size))) hb
  clear hb kNh kIh kIph kIwh kAh
  have cP := kP.cells
  have lP := kP.lt
  go_wp2_with fail
  refine (posIs132_any _ _ _ _ _ _ (by omega) (by omega) (by omega) (by omega) (offv_of (by omega) (by omega)) (by omega) (by omega)).mono ?_
  rintro e v3 ⟨rfl, hb⟩
  have kE := (Bk.fresh _ _ _).keep hb
  have hB := bmore (w := w) ((hB.trans ((Below.refl _ _).alloc (Nat.le_refl _) _ |>.mono hB.size))) hb
  clear hb cP kP lP
  have cE := kE.cells
  go_wp2_with fail
  refine (posIs132_any _ _ _ _ _ _ (by omega) (by omega) (by omega) (by omega) (offv_of (by omega) (by omega)) (by omega) (by omega)).mono ?_
  rintro e v4 ⟨rfl, hb⟩
  have hB := bmore hB hb
  clear hb cE kE
  go_wp2
  go_ret
  exact ⟨rfl, hB⟩
set_option maxHeartbeats 4000000 in
set_option maxRecDepth 100000 in
theorem asnEnd_idxn (a0 a1 a2 : Int) (s3 s4 : ByteArray) (a9 : Int) (w : World) (b0 : 0 ≤ a0) (b0' : a0 ≤ 1073741824) (b1 : 1 ≤ a1) (b1' : a1 ≤ 262143) (b2 : 1 ≤ a2) (n3 : 1 ≤ s3.size) (m3 : s3.size ≤ 4096) (m4 : s4.size ≤ 4096) (q0 : 0 ≤ a9) (q1 : a9 ≤ 4096) (n4 : 1 ≤ s4.size) (ht : a2 + ((s3.size : Int) + (2 + (s4.size : Int))) ≤ 16383) :
    Calls Try.prog 4 #[.int .u32 a0, .int .u32 a1, .int .u32 a2, .string s3, .string s4, .string ByteArray.empty, .bool true, .bool true, .bool false, .int .i64 a9] w fun e w' => e = .returned (.bool true) ∧ Below w.heap.size w w' := by
  have z3 : ((s3.size : Int) == 0) = false := beq_eq_false_iff_ne.2 (by omega)
  have z4 : ((s4.size : Int) == 0) = false := beq_eq_false_iff_ne.2 (by omega)
  go_enter Try.func4, Try.ntmps4
  go_wp2_with fail
  refine (zzBytes132_any _ _ _ _ _ _ _ _ _ _ _ (by omega) (by omega) (by first | omega | decide)).mono ?_
  rintro e w' ⟨b, rfl, rfl⟩
  cases b
  · go_wp2
    go_ret
    exact ⟨rfl, Below.refl _ _⟩
  go_wp2_with (first | (go_at_call 19; refine (litB3_eq _ _ _ _ _ (by omega) (by omega) (by omega) (by omega) (by omega) (by omega)).mono ?_; rintro e w' ⟨rfl, rfl⟩) | (go_at_call 20; refine (mkPos132_eq _ _ _ _ (by omega) (by omega) (by omega) (by omega)).mono ?_; rintro e w' ⟨rfl, rfl⟩))
  refine calls_gen (S := fun W => Bk W (w.heap.size + 1 + 1 + 1 + 1) 97 #[.int .u32 a0, .int .u32 (a1 * 16384 + a2), .int .u32 (a0 + (s3.size : Int)), .int .u32 (a1 * 16384 + (a2 + (s3.size : Int))), .string s3] ∧ Bk W (w.heap.size + 1 + 1 + 1 + 1 + 1 + 1 + 1 + 1 + 1 + 1) 97 #[.int .u32 (a0 + ((s3.size : Int) + 1)), .int .u32 (a1 * 16384 + (a2 + ((s3.size : Int) + 1))), .int .u32 (a0 + ((s3.size : Int) + 1) + (s4.size : Int)), .int .u32 (a1 * 16384 + (a2 + ((s3.size : Int) + 1) + (s4.size : Int))), .string s4] ∧ Bk W (w.heap.size + 1 + 1 + 1 + 1 + 1 + 1 + 1 + 1 + 1 + 1 + 1) 128 #[.iface 37 (.pointer (some ⟨w.heap.size + 1 + 1 + 1 + 1 + 1 + 1 + 1 + 1 + 1 + 1, 0, none⟩))] ∧ Bk W (w.heap.size + 1 + 1 + 1 + 1 + 1 + 1 + 1 + 1 + 1 + 1 + 1 + 1) 46 #[.slice (some ⟨w.heap.size + 1 + 1 + 1 + 1 + 1 + 1 + 1 + 1 + 1 + 1 + 1, 0, none⟩) 1 1] ∧ Bk W (w.heap.size + 1 + 1 + 1 + 1 + 1) 43 #[.bool false, .bool true, .pointer (some ⟨w.heap.size + 1 + 1 + 1 + 1, 0, none⟩), .iface 41 (.pointer (some ⟨w.heap.size + 1 + 1 + 1 + 1 + 1 + 1 + 1 + 1 + 1 + 1 + 1 + 1, 0, none⟩)), .pointer none, .pointer none] ∧ Below w.heap.size w W) ⟨(by repeat (first | (refine Bk.newAt ?_; simp; done) | refine Bk.alloc ?_ _ | refine Bk.drew ?_)), (by repeat (first | (refine Bk.newAt ?_; simp; done) | refine Bk.alloc ?_ _ | refine Bk.drew ?_)), (by repeat (first | (refine Bk.newAt ?_; simp; done) | refine Bk.alloc ?_ _ | refine Bk.drew ?_)), (by repeat (first | (refine Bk.newAt ?_; simp; done) | refine Bk.alloc ?_ _ | refine Bk.drew ?_)), (by repeat (first | (refine Bk.newAt ?_; simp; done) | refine Bk.alloc ?_ _ | refine Bk.drew ?_)), by go_grown⟩ ?_
  rintro W ⟨kN, kI, kIp, kIw, kA, hB⟩
  refine (Assign_Pos_name (w.heap.size + 1 + 1 + 1 + 1 + 1) (w.heap.size + 1 + 1 + 1 + 1) a0 (a1 * 16384 + a2) W (by rw [kA.cells]; rfl) (by rw [kN.cells]; rfl) (by rw [kN.cells]; rfl)).mono ?_
  rintro e v1 ⟨rfl, hb⟩
  have kNh := Lib.hid ((kN.keep hb).alloc (.cells #[.int .u32 a0, .int .u32 (a1 * 16384 + a2)] 24))
  have kIh := Lib.hid ((kI.keep hb).alloc (.cells #[.int .u32 a0, .int .u32 (a1 * 16384 + a2)] 24))
  have kIph := Lib.hid ((kIp.keep hb).alloc (.cells #[.int .u32 a0, .int .u32 (a1 * 16384 + a2)] 24))
  have kIwh := Lib.hid ((kIw.keep hb).alloc (.cells #[.int .u32 a0, .int .u32 (a1 * 16384 + a2)] 24))
  have kAh := Lib.hid ((kA.keep hb).alloc (.cells #[.int .u32 a0, .int .u32 (a1 * 16384 + a2)] 24))
  have hB := bmore hB hb
  clear hb kN kI kIp kIw kA
  go_wp2_with fail
  have C := Assign_End_index_naked (w.heap.size + 1 + 1 + 1 + 1 + 1) (w.heap.size + 1 + 1 + 1 + 1 + 1 + 1 + 1 + 1 + 1 + 1 + 1 + 1) (a0 + ((s3.size : Int) + 1) + (s4.size : Int)) (a1 * 16384 + (a2 + ((s3.size : Int) + 1) + (s4.size : Int))) _ (by rw [kAh.out.cells]; rfl) (by rw [kAh.out.cells]; rfl) (by rw [kAh.out.cells]; rfl) (by rw [kAh.out.cells]; rfl) (fun W1 hb1 => Word_End_lit (w.heap.size + 1 + 1 + 1 + 1 + 1 + 1 + 1 + 1 + 1 + 1 + 1 + 1) (w.heap.size + 1 + 1 + 1 + 1 + 1 + 1 + 1 + 1 + 1 + 1 + 1) 0 1 (w.heap.size + 1 + 1 + 1 + 1 + 1 + 1 + 1 + 1 + 1 + 1) (a0 + ((s3.size : Int) + 1) + (s4.size : Int)) (a1 * 16384 + (a2 + ((s3.size : Int) + 1) + (s4.size : Int))) W1 (by rw [(kIwh.out.keep hb1).cells]; rfl) (by omega) (by rw [(kIph.out.keep hb1).cells]; rfl) (by rw [(kIh.out.keep hb1).cells]; rfl) (by rw [(kIh.out.keep hb1).cells]; rfl)) (by omega) (by omega) (by omega) (by omega)
  rw [addO_in (by omega) (by omega) (by omega) (by omega), addL_in (by omega) (by omega) (by omega) (by omega) (by omega)] at C
  refine C.mono ?_
  clear C
  rintro e v2 ⟨rfl, hb⟩
  have kP := (Bk.fresh _ _ _).keep hb
  have hB := bmore (w := w) ((hB.trans ((Below.refl _ _).alloc (Nat.le_refl _) _ |>.mono hB.size))) hb
  clear hb kNh kIh kIph kIwh kAh
  have cP := kP.cells
  have lP := kP.lt
  go_wp2_with fail
  refine (posIs132_any _ _ _ _ _ _ (by omega) (by omega) (by omega) (by omega) (offv_of (by omega) (by omega)) (by omega) (by omega)).mono ?_
  rintro e v3 ⟨rfl, hb⟩
  have kE := (Bk.fresh _ _ _).keep hb
  have hB := bmore (w := w) ((hB.trans ((Below.refl _ _).alloc (Nat.le_refl _) _ |>.mono hB.size))) hb
  clear hb cP kP lP
  have cE := kE.cells
  go_wp2_with fail
  refine (posIs132_any _ _ _ _ _ _ (by omega) (by omega) (by omega) (by omega) (offv_of (by omega) (by omega)) (by omega) (by omega)).mono ?_
  rintro e v4 ⟨rfl, hb⟩
  have hB := bmore hB hb
  clear hb cE kE
  go_wp2
  go_ret
  exact ⟨rfl, hB⟩
set_option maxHeartbeats 4000000 in
set_option maxRecDepth 100000 in
theorem asnEnd_name (a0 a1 a2 : Int) (s3 s4 : ByteArray) (a9 : Int) (w : World) (b0 : 0 ≤ a0) (b0' : a0 ≤ 1073741824) (b1 : 1 ≤ a1) (b1' : a1 ≤ 262143) (b2 : 1 ≤ a2) (n3 : 1 ≤ s3.size) (m3 : s3.size ≤ 4096) (m4 : s4.size ≤ 4096) (q0 : 0 ≤ a9) (q1 : a9 ≤ 4096) (ht : a2 + ((s3.size : Int) + 1) ≤ 16383) :
    Calls Try.prog 4 #[.int .u32 a0, .int .u32 a1, .int .u32 a2, .string s3, .string s4, .string ByteArray.empty, .bool false, .bool false, .bool false, .int .i64 a9] w fun e w' => e = .returned (.bool true) ∧ Below w.heap.size w w' := by
  have z3 : ((s3.size : Int) == 0) = false := beq_eq_false_iff_ne.2 (by omega)
  go_enter Try.func4, Try.ntmps4
  go_wp2_with fail
  refine (zzBytes132_any _ _ _ _ _ _ _ _ _ _ _ (by omega) (by omega) (by first | omega | decide)).mono ?_
  rintro e w' ⟨b, rfl, rfl⟩
  cases b
  · go_wp2
    go_ret
    exact ⟨rfl, Below.refl _ _⟩
  go_wp2_with (first | (go_at_call 19; refine (litB3_eq _ _ _ _ _ (by omega) (by omega) (by omega) (by omega) (by omega) (by omega)).mono ?_; rintro e w' ⟨rfl, rfl⟩) | (go_at_call 20; refine (mkPos132_eq _ _ _ _ (by omega) (by omega) (by omega) (by omega)).mono ?_; rintro e w' ⟨rfl, rfl⟩))
  refine calls_gen (S := fun W => Bk W (w.heap.size + 1 + 1 + 1 + 1) 97 #[.int .u32 a0, .int .u32 (a1 * 16384 + a2), .int .u32 (a0 + (s3.size : Int)), .int .u32 (a1 * 16384 + (a2 + (s3.size : Int))), .string s3] ∧ Bk W (w.heap.size + 1 + 1 + 1 + 1 + 1) 43 #[.bool false, .bool false, .pointer (some ⟨w.heap.size + 1 + 1 + 1 + 1, 0, none⟩), .nilIface, .pointer none, .pointer none] ∧ Below w.heap.size w W) ⟨(by repeat (first | (refine Bk.newAt ?_; simp; done) | refine Bk.alloc ?_ _ | refine Bk.drew ?_)), (by repeat (first | (refine Bk.newAt ?_; simp; done) | refine Bk.alloc ?_ _ | refine Bk.drew ?_)), by go_grown⟩ ?_
  rintro W ⟨kN, kA, hB⟩
  refine (Assign_Pos_name (w.heap.size + 1 + 1 + 1 + 1 + 1) (w.heap.size + 1 + 1 + 1 + 1) a0 (a1 * 16384 + a2) W (by rw [kA.cells]; rfl) (by rw [kN.cells]; rfl) (by rw [kN.cells]; rfl)).mono ?_
  rintro e v1 ⟨rfl, hb⟩
  have kNh := Lib.hid ((kN.keep hb).alloc (.cells #[.int .u32 a0, .int .u32 (a1 * 16384 + a2)] 24))
  have kAh := Lib.hid ((kA.keep hb).alloc (.cells #[.int .u32 a0, .int .u32 (a1 * 16384 + a2)] 24))
  have hB := bmore hB hb
  clear hb kN kA
  go_wp2_with fail
  have C := Assign_End_name (w.heap.size + 1 + 1 + 1 + 1 + 1) (w.heap.size + 1 + 1 + 1 + 1) (a0 + (s3.size : Int)) (a1 * 16384 + (a2 + (s3.size : Int))) _ (by rw [kAh.out.cells]; rfl) (by rw [kAh.out.cells]; rfl) (by rw [kAh.out.cells]; rfl) (by rw [kAh.out.cells]; rfl) (by rw [kAh.out.cells]; rfl) (by rw [kNh.out.cells]; rfl) (by rw [kNh.out.cells]; rfl) (by omega) (by omega) (by omega) (by omega)
  rw [addO_in (by omega) (by omega) (by omega) (by omega), addL_in (by omega) (by omega) (by omega) (by omega) (by omega)] at C
  refine C.mono ?_
  clear C
  rintro e v2 ⟨rfl, hb⟩
  have kP := (Bk.fresh _ _ _).keep hb
  have hB := bmore (w := w) ((hB.trans ((Below.refl _ _).alloc (Nat.le_refl _) _ |>.mono hB.size))) hb
  clear hb kNh kAh
  have cP := kP.cells
  have lP := kP.lt
  go_wp2_with fail
  refine (posIs132_any _ _ _ _ _ _ (by omega) (by omega) (by omega) (by omega) (offv_of (by omega) (by omega)) (by omega) (by omega)).mono ?_
  rintro e v3 ⟨rfl, hb⟩
  have kE := (Bk.fresh _ _ _).keep hb
  have hB := bmore (w := w) ((hB.trans ((Below.refl _ _).alloc (Nat.le_refl _) _ |>.mono hB.size))) hb
  clear hb cP kP lP
  have cE := kE.cells
  go_wp2_with fail
  refine (posIs132_any _ _ _ _ _ _ (by omega) (by omega) (by omega) (by omega) (offv_of (by omega) (by omega)) (by omega) (by omega)).mono ?_
  rintro e v4 ⟨rfl, hb⟩
  have hB := bmore hB hb
  clear hb cE kE
  go_wp2
  go_ret
  exact ⟨rfl, hB⟩
set_option maxHeartbeats 4000000 in
set_option maxRecDepth 100000 in
theorem asnEnd_naked (a0 a1 a2 : Int) (s3 s4 : ByteArray) (a9 : Int) (w : World) (b0 : 0 ≤ a0) (b0' : a0 ≤ 1073741824) (b1 : 1 ≤ a1) (b1' : a1 ≤ 262143) (b2 : 1 ≤ a2) (n3 : 1 ≤ s3.size) (m3 : s3.size ≤ 4096) (m4 : s4.size ≤ 4096) (q0 : 0 ≤ a9) (q1 : a9 ≤ 4096) (ht : a2 + ((s3.size : Int)) ≤ 16383) :
    Calls Try.prog 4 #[.int .u32 a0, .int .u32 a1, .int .u32 a2, .string s3, .string s4, .string ByteArray.empty, .bool false, .bool true, .bool false, .int .i64 a9] w fun e w' => e = .returned (.bool true) ∧ Below w.heap.size w w' := by
  have z3 : ((s3.size : Int) == 0) = false := beq_eq_false_iff_ne.2 (by omega)
  go_enter Try.func4, Try.ntmps4
  go_wp2_with fail
  refine (zzBytes132_any _ _ _ _ _ _ _ _ _ _ _ (by omega) (by omega) (by first | omega | decide)).mono ?_
  rintro e w' ⟨b, rfl, rfl⟩
  cases b
  · go_wp2
    go_ret
    exact ⟨rfl, Below.refl _ _⟩
  go_wp2_with (first | (go_at_call 19; refine (litB3_eq _ _ _ _ _ (by omega) (by omega) (by omega) (by omega) (by omega) (by omega)).mono ?_; rintro e w' ⟨rfl, rfl⟩) | (go_at_call 20; refine (mkPos132_eq _ _ _ _ (by omega) (by omega) (by omega) (by omega)).mono ?_; rintro e w' ⟨rfl, rfl⟩))
  refine calls_gen (S := fun W => Bk W (w.heap.size + 1 + 1 + 1 + 1) 97 #[.int .u32 a0, .int .u32 (a1 * 16384 + a2), .int .u32 (a0 + (s3.size : Int)), .int .u32 (a1 * 16384 + (a2 + (s3.size : Int))), .string s3] ∧ Bk W (w.heap.size + 1 + 1 + 1 + 1 + 1) 43 #[.bool false, .bool true, .pointer (some ⟨w.heap.size + 1 + 1 + 1 + 1, 0, none⟩), .nilIface, .pointer none, .pointer none] ∧ Below w.heap.size w W) ⟨(by repeat (first | (refine Bk.newAt ?_; simp; done) | refine Bk.alloc ?_ _ | refine Bk.drew ?_)), (by repeat (first | (refine Bk.newAt ?_; simp; done) | refine Bk.alloc ?_ _ | refine Bk.drew ?_)), by go_grown⟩ ?_
  rintro W ⟨kN, kA, hB⟩
  refine (Assign_Pos_name (w.heap.size + 1 + 1 + 1 + 1 + 1) (w.heap.size + 1 + 1 + 1 + 1) a0 (a1 * 16384 + a2) W (by rw [kA.cells]; rfl) (by rw [kN.cells]; rfl) (by rw [kN.cells]; rfl)).mono ?_
  rintro e v1 ⟨rfl, hb⟩
  have kNh := Lib.hid ((kN.keep hb).alloc (.cells #[.int .u32 a0, .int .u32 (a1 * 16384 + a2)] 24))
  have kAh := Lib.hid ((kA.keep hb).alloc (.cells #[.int .u32 a0, .int .u32 (a1 * 16384 + a2)] 24))
  have hB := bmore hB hb
  clear hb kN kA
  go_wp2_with fail
  have C := Assign_End_naked (w.heap.size + 1 + 1 + 1 + 1 + 1) (w.heap.size + 1 + 1 + 1 + 1) (a0 + (s3.size : Int)) (a1 * 16384 + (a2 + (s3.size : Int))) _ (by rw [kAh.out.cells]; rfl) (by rw [kAh.out.cells]; rfl) (by rw [kAh.out.cells]; rfl) (by rw [kAh.out.cells]; rfl) (by rw [kAh.out.cells]; rfl) (by rw [kNh.out.cells]; rfl) (by rw [kNh.out.cells]; rfl)
  refine C.mono ?_
  clear C
  rintro e v2 ⟨rfl, hb⟩
  have kP := (Bk.fresh _ _ _).keep hb
  have hB := bmore (w := w) ((hB.trans ((Below.refl _ _).alloc (Nat.le_refl _) _ |>.mono hB.size))) hb
  clear hb kNh kAh
  have cP := kP.cells
  have lP := kP.lt
  go_wp2_with fail
  refine (posIs132_any _ _ _ _ _ _ (by omega) (by omega) (by omega) (by omega) (offv_of (by omega) (by omega)) (by omega) (by omega)).mono ?_
  rintro e v3 ⟨rfl, hb⟩
  have kE := (Bk.fresh _ _ _).keep hb
  have hB := bmore (w := w) ((hB.trans ((Below.refl _ _).alloc (Nat.le_refl _) _ |>.mono hB.size))) hb
  clear hb cP kP lP
  have cE := kE.cells
  go_wp2_with fail
  refine (posIs132_any _ _ _ _ _ _ (by omega) (by omega) (by omega) (by omega) (offv_of (by omega) (by omega)) (by omega) (by omega)).mono ?_
  rintro e v4 ⟨rfl, hb⟩
  have hB := bmore hB hb
  clear hb cE kE
  go_wp2
  go_ret
  exact ⟨rfl, hB⟩
end Go.Proofs.Ytaampofbcbophaa
