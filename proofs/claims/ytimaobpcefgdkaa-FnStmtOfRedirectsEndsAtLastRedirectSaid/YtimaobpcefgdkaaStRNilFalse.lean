/- The contract of Stmt.End without a terminator, with redirects: nil, negated: false. -/
import Derived.Test.YtimaobpcefgdkaaStmt
import Derived.Test.YtimaobpcefgdkaaWord
import Derived.Deep.RegionWith
namespace Go.Proofs.Ytimaobpcefgdkaa
open Go.RowKit
set_option maxRecDepth 100000 in
set_option maxHeartbeats 8000000 in
theorem Stmt_End_nil_false (b rs n cap br : Nat) (cm : Value) (po pl so sl ro rl : Int) (bg cop dis : Bool) (w : World)
    (hB : Bk w b 68 (stCells cm .nilIface po pl so sl false bg cop dis (.slice (some ⟨rs, 0, none⟩) (n + 1) cap))) (hv : vld so sl = false) (_o0 : 0 ≤ po) (_o1 : po < 4294967296) (_l0 : 0 ≤ pl) (_l1 : pl < 4294967296)
    (hn : n ≤ 4611686018427387904) (hr : w.cell? ⟨rs, n, none⟩ = some (.pointer (some ⟨br, 0, none⟩)))
    (hend : ∀ W, Below w.heap.size w W → Calls Try.prog 28 #[.pointer (some ⟨br, 0, none⟩)] W fun e w' => e = .returned (P2 ro rl) ∧ Below W.heap.size W w') :
    Calls Try.prog 27 #[.pointer (some ⟨b, 0, none⟩)] w fun e w' => e = .returned (if aft ro rl (po) then P2 ro rl else P2 (po) (pl)) ∧ Below w.heap.size w w' := by
  have HE := Lib.hid hend
  clear hend
  obtain ⟨xo, xl, hres⟩ : ∃ xo xl, (if aft ro rl (po) then P2 ro rl else P2 (po) (pl)) = P2 xo xl := by
    cases aft ro rl (po) <;> exact ⟨_, _, rfl⟩
  rw [hres]
  have HR := Lib.hid hres
  clear hres
  have lr := World.block_lt_of_cell? _ _ hr
  have i1 : (0 : Int) < (n : Int) + 1 := by omega
  have hlt := hB.lt
  have hc := hB.cells
  go_enter Try.func27, Try.ntmps27
  go_wp2_with fail
  refine (isValid_any _ _ _).mono ?_
  rintro e w1 ⟨rfl, hb1⟩
  rw [hv]
  have S1 := (hB.alloc _).keep hb1
  have R1 := (Bk.fresh _ _ _).keep hb1
  have B1 := bmore (w := w) (by go_grown) hb1
  have s1 := B1.size
  have cS := S1.cells
  have r1 : w1.cell? ⟨rs, n, none⟩ = some (.pointer (some ⟨br, 0, none⟩)) := keepc hb1 (by simp [go_sem, hr, lr])
  clear hb1 hc hr
  have cR := R1.cells
  have fR := R1.frz
  have lR := R1.lt
  have lS := S1.lt
  have lr1 := World.block_lt_of_cell? _ _ r1
  have nRE : ¬ w.heap.size = w1.heap.size := by omega
  have nSE : ¬ b = w1.heap.size := by omega
  have nrE : ¬ rs = w1.heap.size := by omega
  go_wp2_with fail
  refine wp_gen (S := fun W => Bk W b 68 (stCells cm .nilIface po pl so sl false bg cop dis (.slice (some ⟨rs, 0, none⟩) (n + 1) cap)) ∧ Bk W w.heap.size 30 #[.int .u32 0, .int .u32 0] ∧ Bk W w1.heap.size 30 #[.int .u32 (po), .int .u32 (pl)] ∧ W.cell? ⟨rs, n, none⟩ = some (.pointer (some ⟨br, 0, none⟩)) ∧ Below w.heap.size w W) ⟨S1.alloc _, R1.alloc _, Bk.fresh _ _ _, by simp [go_sem, r1, lr1], by go_grown⟩ ?_
  clear S1 R1 r1 cS cR fR B1
  rintro W ⟨T2, U2, V2, r2, B2⟩
  have cS := T2.cells
  have cE := V2.cells
  have i0 : (0 : Int) ≤ (n : Int) := Int.natCast_nonneg _
  have i2 : (n : Int) < (n : Int) + 1 := by omega
  have iw : IntKind.i64.wrap (n : Int) = (n : Int) := IntWalk.i64_in _ (by omega)
  go_region_with (first | (go_at_call 28; refine (HE.out _ B2.drew).mono ?_; rintro e w8 ⟨rfl, hb8⟩; have R8 := U2.drew.keep hb8; have E8 := V2.drew.keep hb8; have B8 := bmore B2.drew hb8; have cE8 := E8.cells; clear hb8) | (go_at_call 80; refine (posMax_any _ _ _ _ _).mono ?_; rintro e w9 ⟨rfl, hb9⟩; rw [HR.out]; have R9 := R8.keep hb9; have E9 := E8.keep hb9; have B9 := bmore B8 hb9; have cE9 := E9.cells; have fE9 := E9.frz; clear hb9))
  all_goals
    have cR9 := R9.cells
    have fR9 := R9.frz
    go_wp2
    refine bodyPost_ret (v := P2 xo xl) (by simp [results, Try.results27, go_sem, cR9]) rfl ⟨rfl, ?_⟩
    go_grown
end Go.Proofs.Ytimaobpcefgdkaa
