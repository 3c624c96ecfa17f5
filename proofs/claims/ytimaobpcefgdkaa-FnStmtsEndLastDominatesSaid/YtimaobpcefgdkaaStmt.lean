/- Contracts of Stmt.End: with a valid terminator; without one, for a bare statement; with a command whose End is known. -/
import Derived.Test.YtimaobpcefgdkaaNodes
import Derived.Test.YtimaobpcefgdkaaBlk
namespace Go.Proofs.Ytimaobpcefgdkaa
open Go.RowKit

abbrev stCells (cm cmd : Value) (po pl so sl : Int) (neg bg cop dis : Bool) (rd : Value) : Array Value :=
  #[cm, cmd, .int .u32 po, .int .u32 pl, .int .u32 so, .int .u32 sl, .bool neg, .bool bg, .bool cop, .bool dis, rd]

theorem Stmt_End_sem1 (b : Nat) (cm cmd : Value) (po pl so sl : Int) (neg bg : Bool) (rd : Value) (w : World)
    (hB : Bk w b 68 (stCells cm cmd po pl so sl neg bg false false rd)) (hv : vld so sl = true) (o0 : 0 ≤ so) (o1 : so < 4294967296) (l0 : 0 ≤ sl) (l1 : sl < 4294967296) :
    Calls Try.prog 27 #[.pointer (some ⟨b, 0, none⟩)] w fun e w' => e = .returned (P2 (addO so sl 1) (addL so sl 1)) ∧ Below w.heap.size w w' := by
  have hlt := hB.lt
  have hc := hB.cells
  go_enter Try.func27, Try.ntmps27
  go_wp2_with fail
  refine (isValid_any _ _ _).mono ?_
  rintro e w1 ⟨rfl, hb1⟩
  rw [hv]
  have S1 := (hB.alloc _).keep hb1
  have R1 := (Bk.fresh _ _ _).keep hb1
  have B1 := bmore (w := w) (by go_grown) hb1
  have s1 := B1.size
  have cS := S1.cells
  clear hb1 hc
  go_wp2_with fail
  refine (addCol_any _ _ _ _ (by omega) (by omega) (by omega) (by omega) (by omega) (by omega)).mono ?_
  rintro e w2 ⟨rfl, hb2⟩
  have S2 := S1.keep hb2
  have R2 := R1.keep hb2
  have B2 := bmore B1 hb2
  have s2 := B2.size
  clear hb2 S1 R1 B1 cS s1
  have cS := S2.cells
  have cR := R2.cells
  have fR := R2.frz
  have lR := R2.lt
  have lS := S2.lt
  go_wp2
  refine bodyPost_ret (v := P2 (addO so sl 1) (addL so sl 1)) (by simp [results, Try.results27, go_sem, cR, lR]) rfl ⟨rfl, ?_⟩
  go_grown
theorem Stmt_End_sem2 (b : Nat) (cm cmd : Value) (po pl so sl : Int) (neg bg cop dis : Bool) (rd : Value) (w : World)
    (hB : Bk w b 68 (stCells cm cmd po pl so sl neg bg cop dis rd)) (hcd : (cop || dis) = true) (hv : vld so sl = true) (o0 : 0 ≤ so) (o1 : so < 4294967296) (l0 : 0 ≤ sl) (l1 : sl < 4294967296) :
    Calls Try.prog 27 #[.pointer (some ⟨b, 0, none⟩)] w fun e w' => e = .returned (P2 (addO (addO so sl 1) (addL so sl 1) 1) (addL (addO so sl 1) (addL so sl 1) 1)) ∧ Below w.heap.size w w' := by
  have k1 := addO_bd so sl 1 o0 o1
  have k2 := addL_bd so sl 1 l0 l1
  have hcd' : cop = true ∨ (cop = false ∧ dis = true) := by cases cop <;> cases dis <;> simp_all
  clear hcd
  rcases hcd' with rfl | ⟨rfl, rfl⟩
  all_goals
    have hlt := hB.lt
    have hc := hB.cells
    go_enter Try.func27, Try.ntmps27
    go_wp2_with fail
    refine (isValid_any _ _ _).mono ?_
    rintro e w1 ⟨rfl, hb1⟩
    rw [hv]
    have S1 := (hB.alloc _).keep hb1
    have R1 := (Bk.fresh _ _ _).keep hb1
    have B1 := bmore (w := w) (by go_grown) hb1
    have s1 := B1.size
    have cS := S1.cells
    clear hb1 hc
    go_wp2_with fail
    refine (addCol_any _ _ _ _ (by omega) (by omega) (by omega) (by omega) (by omega) (by omega)).mono ?_
    rintro e w2 ⟨rfl, hb2⟩
    have S2 := S1.keep hb2
    have R2 := R1.keep hb2
    have B2 := bmore B1 hb2
    have s2 := B2.size
    clear hb2 S1 R1 B1 cS s1
    have cS := S2.cells
    have cR := R2.cells
    have fR := R2.frz
    have lR := R2.lt
    have lS := S2.lt
    go_wp2_with fail
    refine (addCol_any _ _ _ _ (by omega) (by omega) (by omega) (by omega) (by omega) (by omega)).mono ?_
    rintro e w3 ⟨rfl, hb3⟩
    have R3 := (R2.alloc _).keep hb3
    have E3 := (Bk.fresh _ _ _).keep hb3
    have B3 := bmore (w := w) (by go_grown) hb3
    have s3 := B3.size
    have l23 : w2.heap.size < w3.heap.size := E3.lt
    have nRE : ¬ w.heap.size = w2.heap.size := by omega
    have nER : ¬ w2.heap.size = w.heap.size := by omega
    clear hb3 R2 S2 cS cR fR B2
    have cR := R3.cells
    have fR := R3.frz
    have cE := E3.cells
    have fE := E3.frz
    go_wp2
    refine bodyPost_ret (v := P2 (addO (addO so sl 1) (addL so sl 1) 1) (addL (addO so sl 1) (addL so sl 1) 1)) (by simp [results, Try.results27, go_sem, cR]) rfl ⟨rfl, ?_⟩
    go_grown
  
theorem Stmt_End_bare (b : Nat) (cm : Value) (po pl so sl : Int) (neg bg cop dis : Bool) (w : World)
    (hB : Bk w b 68 (stCells cm .nilIface po pl so sl neg bg cop dis (.slice none 0 0))) (hv : vld so sl = false) (o0 : 0 ≤ po) (o1 : po < 4294967296) (l0 : 0 ≤ pl) (l1 : pl < 4294967296) :
    Calls Try.prog 27 #[.pointer (some ⟨b, 0, none⟩)] w fun e w' => e = .returned (if neg then P2 (addO po pl 1) (addL po pl 1) else P2 po pl) ∧ Below w.heap.size w w' := by
  cases neg with
  | false =>
    rw [if_neg (by simp)]
    have hlt := hB.lt
    have hc := hB.cells
    go_enter Try.func27, Try.ntmps27
    go_wp2_with fail
    refine (isValid_any _ _ _).mono ?_
    rintro e w1 ⟨rfl, hb1⟩
    rw [hv]
    have S1 := (hB.alloc _).keep hb1
    have R1 := (Bk.fresh _ _ _).keep hb1
    have B1 := bmore (w := w) (by go_grown) hb1
    have s1 := B1.size
    have cS := S1.cells
    clear hb1 hc
    have cR := R1.cells
    have fR := R1.frz
    have lR := R1.lt
    have lS := S1.lt
    have nRE : ¬ w.heap.size = w1.heap.size := by omega
    go_wp2
    refine bodyPost_ret (v := P2 po pl) (by simp [results, Try.results27, go_sem, cR, lR]) rfl ⟨rfl, ?_⟩
    go_grown
  
  | true =>
    rw [if_pos rfl]
    have hlt := hB.lt
    have hc := hB.cells
    go_enter Try.func27, Try.ntmps27
    go_wp2_with fail
    refine (isValid_any _ _ _).mono ?_
    rintro e w1 ⟨rfl, hb1⟩
    rw [hv]
    have S1 := (hB.alloc _).keep hb1
    have R1 := (Bk.fresh _ _ _).keep hb1
    have B1 := bmore (w := w) (by go_grown) hb1
    have s1 := B1.size
    have cS := S1.cells
    clear hb1 hc
    have cR := R1.cells
    have fR := R1.frz
    have lR := R1.lt
    have lS := S1.lt
    go_wp2_with fail
    refine (addCol_any _ _ _ _ (by omega) (by omega) (by omega) (by omega) (by omega) (by omega)).mono ?_
    rintro e w2 ⟨rfl, hb2⟩
    have S2 := (S1.alloc _).keep hb2
    have R2 := (R1.alloc _).keep hb2
    have E2 := (Bk.fresh _ _ _).keep hb2
    have B2 := bmore (w := w) (by go_grown) hb2
    have s2 := B2.size
    have l12 : w1.heap.size < w2.heap.size := E2.lt
    have nRE : ¬ w.heap.size = w1.heap.size := by omega
    have nER : ¬ w1.heap.size = w.heap.size := by omega
    have nSE : ¬ b = w1.heap.size := by omega
    have nES : ¬ w1.heap.size = b := by omega
    clear hb2 S1 R1 B1 cS cR fR
    have cS := S2.cells
    have cR := R2.cells
    have fR := R2.frz
    have cE := E2.cells
    have fE := E2.frz
    go_wp2
    refine bodyPost_ret (v := P2 (addO po pl 1) (addL po pl 1)) (by simp [results, Try.results27, go_sem, cR]) rfl ⟨rfl, ?_⟩
    go_grown
  
theorem Stmt_End_CallExpr (b bc : Nat) (cm : Value) (po pl so sl co cl : Int) (neg bg cop dis : Bool) (w : World)
    (hB : Bk w b 68 (stCells cm (.iface 44 (.pointer (some ⟨bc, 0, none⟩))) po pl so sl neg bg cop dis (.slice none 0 0))) (hv : vld so sl = false) (o0 : 0 ≤ po) (o1 : po < 4294967296) (l0 : 0 ≤ pl) (l1 : pl < 4294967296)
    (hend : ∀ W, Below w.heap.size w W → Calls Try.prog 17 #[.pointer (some ⟨bc, 0, none⟩)] W fun e w' => e = .returned (P2 co cl) ∧ Below W.heap.size W w') :
    Calls Try.prog 27 #[.pointer (some ⟨b, 0, none⟩)] w fun e w' => e = .returned (P2 co cl) ∧ Below w.heap.size w w' := by
  have HE := Lib.hid hend
  clear hend
  cases neg with
  | false =>
    have hlt := hB.lt
    have hc := hB.cells
    go_enter Try.func27, Try.ntmps27
    go_wp2_with fail
    refine (isValid_any _ _ _).mono ?_
    rintro e w1 ⟨rfl, hb1⟩
    rw [hv]
    have S1 := (hB.alloc _).keep hb1
    have R1 := (Bk.fresh _ _ _).keep hb1
    have B1 := bmore (w := w) (by go_grown) hb1
    have s1 := B1.size
    have cS := S1.cells
    clear hb1 hc
    have cR := R1.cells
    have fR := R1.frz
    have lR := R1.lt
    have lS := S1.lt
    have nRE : ¬ w.heap.size = w1.heap.size := by omega
    go_wp2_with fail
    refine (HE.out _ (by go_grown)).mono ?_
    rintro e w3 ⟨rfl, hb3⟩
    have S3 := (S1.alloc _).keep hb3
    have R3 := (R1.alloc _).keep hb3
    have E3 := (Bk.fresh _ _ _).keep hb3
    have B3 := bmore (w := w) (by go_grown) hb3
    have s3 := B3.size
    have l13 : w1.heap.size < w3.heap.size := E3.lt
    have nER : ¬ w1.heap.size = w.heap.size := by omega
    have nSE : ¬ b = w1.heap.size := by omega
    have nES : ¬ w1.heap.size = b := by omega
    clear hb3 S1 R1 B1 cS cR fR
    have cS := S3.cells
    have cR := R3.cells
    have fR := R3.frz
    have cE := E3.cells
    have fE := E3.frz
    go_wp2
    refine bodyPost_ret (v := P2 co cl) (by simp [results, Try.results27, go_sem, cR]) rfl ⟨rfl, ?_⟩
    go_grown
  | true =>
    have hlt := hB.lt
    have hc := hB.cells
    go_enter Try.func27, Try.ntmps27
    go_wp2_with fail
    refine (isValid_any _ _ _).mono ?_
    rintro e w1 ⟨rfl, hb1⟩
    rw [hv]
    have S1 := (hB.alloc _).keep hb1
    have R1 := (Bk.fresh _ _ _).keep hb1
    have B1 := bmore (w := w) (by go_grown) hb1
    have s1 := B1.size
    have cS := S1.cells
    clear hb1 hc
    have cR := R1.cells
    have fR := R1.frz
    have lR := R1.lt
    have lS := S1.lt
    go_wp2_with fail
    refine (addCol_any _ _ _ _ (by omega) (by omega) (by omega) (by omega) (by omega) (by omega)).mono ?_
    rintro e w2 ⟨rfl, hb2⟩
    have S2 := (S1.alloc _).keep hb2
    have R2 := (R1.alloc _).keep hb2
    have E2 := (Bk.fresh _ _ _).keep hb2
    have B2 := bmore (w := w) (by go_grown) hb2
    have s2 := B2.size
    have l12 : w1.heap.size < w2.heap.size := E2.lt
    have nRE : ¬ w.heap.size = w1.heap.size := by omega
    have nER : ¬ w1.heap.size = w.heap.size := by omega
    have nSE : ¬ b = w1.heap.size := by omega
    have nES : ¬ w1.heap.size = b := by omega
    clear hb2 S1 R1 B1 cS cR fR
    have cS := S2.cells
    have cR := R2.cells
    have fR := R2.frz
    have cE := E2.cells
    have fE := E2.frz
    go_wp2_with fail
    have B2' : Below w.heap.size w ((w2.setCell ⟨w1.heap.size, 0, none⟩ (.int .u32 (addO po pl 1))).setCell ⟨w1.heap.size, 1, none⟩ (.int .u32 (addL po pl 1))) := by go_grown
    refine (HE.out _ B2').mono ?_
    rintro e w3 ⟨rfl, hb3⟩
    have S3 := ((S2.far (p := ⟨w1.heap.size, 0, none⟩) nSE _).far (p := ⟨w1.heap.size, 1, none⟩) nSE _).keep hb3
    have R3 := ((R2.far (p := ⟨w1.heap.size, 0, none⟩) nRE _).far (p := ⟨w1.heap.size, 1, none⟩) nRE _).keep hb3
    have E3 := ((E2.put 0 _).put 1 _).keep hb3
    have B3 := bmore B2' hb3
    have s3 := B3.size
    clear hb3 S2 R2 E2 B2 B2' cS cR fR cE fE
    have cS := S3.cells
    have cR := R3.cells
    have fR := R3.frz
    have cE := E3.cells
    have fE := E3.frz
    go_wp2
    refine bodyPost_ret (v := P2 co cl) (by simp [results, Try.results27, go_sem, cR]) rfl ⟨rfl, ?_⟩
    go_grown
end Go.Proofs.Ytimaobpcefgdkaa
