/- Contracts of Assign.Pos and Assign.End, by which of the fields are set. -/
import Derived.Test.YtaampofbcbophaaWord
namespace Go.Proofs.Ytaampofbcbophaa
open Go.RowKit
theorem Assign_Pos_name (b bn : Nat) (o lc : Int) (w : World) (h2 : w.cell? ⟨b, 2, none⟩ = some (.pointer (some ⟨bn, 0, none⟩))) (h0 : w.cell? ⟨bn, 0, none⟩ = some (.int .u32 o)) (h1 : w.cell? ⟨bn, 1, none⟩ = some (.int .u32 lc)) :
    Calls Try.prog 21 #[.pointer (some ⟨b, 0, none⟩)] w fun e w' => e = .returned (P2 o lc) ∧ Below w.heap.size w w' := by
  have hlt : b < w.heap.size := World.block_lt_of_cell? _ _ h2
  have hlt2 : bn < w.heap.size := World.block_lt_of_cell? _ _ h0
  go_enter Try.func21, Try.ntmps21
  go_wp2_with (go_at_call 58; refine (Lit_Pos_any _ o lc _ (by simp [go_sem, h0, hlt2]) (by simp [go_sem, h1, hlt2])).mono ?_; rintro e w1 ⟨rfl, hb⟩; obtain ⟨hc, hf, hz, hB, hs⟩ := bcell (w := w) (by go_grown) hb; clear hb)
  refine bodyPost_ret (v := P2 o lc) (by simp [results, Try.results21, go_sem, hc]) rfl ⟨rfl, ?_⟩
  go_grown
theorem Assign_End_value (b bw : Nat) (o lc : Int) (w : World) (h4 : w.cell? ⟨b, 4, none⟩ = some (.pointer (some ⟨bw, 0, none⟩)))
    (hend : ∀ W, Below w.heap.size w W → Calls Try.prog 60 #[.pointer (some ⟨bw, 0, none⟩)] W fun e w' => e = .returned (P2 o lc) ∧ Below W.heap.size W w') :
    Calls Try.prog 22 #[.pointer (some ⟨b, 0, none⟩)] w fun e w' => e = .returned (P2 o lc) ∧ Below w.heap.size w w' := by
  have hlt : b < w.heap.size := World.block_lt_of_cell? _ _ h4
  have HE := Lib.hid hend
  clear hend
  go_enter Try.func22, Try.ntmps22
  go_wp2_with (go_at_call 60; refine (HE.out _ (by go_grown)).mono ?_; rintro e w1 ⟨rfl, hb⟩; obtain ⟨hc, hf, hz, hB, hs⟩ := bcell (w := w) (by go_grown) hb; clear hb)
  refine bodyPost_ret (v := P2 o lc) (by simp [results, Try.results22, go_sem, hc]) rfl ⟨rfl, ?_⟩
  go_grown
theorem Assign_End_array (b ba : Nat) (o lc : Int) (w : World) (h4 : w.cell? ⟨b, 4, none⟩ = some (.pointer none)) (h5 : w.cell? ⟨b, 5, none⟩ = some (.pointer (some ⟨ba, 0, none⟩)))
    (h0 : w.cell? ⟨ba, 2, none⟩ = some (.int .u32 o)) (h1 : w.cell? ⟨ba, 3, none⟩ = some (.int .u32 lc)) (o0 : 0 ≤ o) (o1 : o < 4294967296) (l0 : 0 ≤ lc) (l1 : lc < 4294967296) :
    Calls Try.prog 22 #[.pointer (some ⟨b, 0, none⟩)] w fun e w' => e = .returned (P2 (addO o lc 1) (addL o lc 1)) ∧ Below w.heap.size w w' := by
  have hlt : b < w.heap.size := World.block_lt_of_cell? _ _ h4
  have hlt2 : ba < w.heap.size := World.block_lt_of_cell? _ _ h0
  go_enter Try.func22, Try.ntmps22
  go_wp2_with (go_at_call 16; refine (ArrayExpr_End_any _ o lc _ (by simp [go_sem, h0, hlt2]) (by simp [go_sem, h1, hlt2]) o0 o1 l0 l1).mono ?_; rintro e w1 ⟨rfl, hb⟩; obtain ⟨hc, hf, hz, hB, hs⟩ := bcell (w := w) (by go_grown) hb; clear hb)
  refine bodyPost_ret (v := P2 (addO o lc 1) (addL o lc 1)) (by simp [results, Try.results22, go_sem, hc]) rfl ⟨rfl, ?_⟩
  go_grown
theorem Assign_End_naked (b bn : Nat) (o lc : Int) (w : World) (h1' : w.cell? ⟨b, 1, none⟩ = some (.bool true)) (h2 : w.cell? ⟨b, 2, none⟩ = some (.pointer (some ⟨bn, 0, none⟩))) (h3 : w.cell? ⟨b, 3, none⟩ = some .nilIface) (h4 : w.cell? ⟨b, 4, none⟩ = some (.pointer none)) (h5 : w.cell? ⟨b, 5, none⟩ = some (.pointer none))
    (h0 : w.cell? ⟨bn, 2, none⟩ = some (.int .u32 o)) (h1 : w.cell? ⟨bn, 3, none⟩ = some (.int .u32 lc)) :
    Calls Try.prog 22 #[.pointer (some ⟨b, 0, none⟩)] w fun e w' => e = .returned (P2 o lc) ∧ Below w.heap.size w w' := by
  have hlt : b < w.heap.size := World.block_lt_of_cell? _ _ h4
  have hlt2 : bn < w.heap.size := World.block_lt_of_cell? _ _ h0
  go_enter Try.func22, Try.ntmps22
  go_wp2_with (go_at_call 34; refine (Lit_End_any _ o lc _ (by simp [go_sem, h0, hlt2]) (by simp [go_sem, h1, hlt2])).mono ?_; rintro e w1 ⟨rfl, hb⟩; obtain ⟨hc, hf, hz, hB, hs⟩ := bcell (w := w) (by go_grown) hb; clear hb)
  refine bodyPost_ret (v := P2 o lc) (by simp [results, Try.results22, go_sem, hc]) rfl ⟨rfl, ?_⟩
  go_grown
theorem Assign_End_name (b bn : Nat) (o lc : Int) (w : World) (h1' : w.cell? ⟨b, 1, none⟩ = some (.bool false)) (h2 : w.cell? ⟨b, 2, none⟩ = some (.pointer (some ⟨bn, 0, none⟩))) (h3 : w.cell? ⟨b, 3, none⟩ = some .nilIface) (h4 : w.cell? ⟨b, 4, none⟩ = some (.pointer none)) (h5 : w.cell? ⟨b, 5, none⟩ = some (.pointer none))
    (h0 : w.cell? ⟨bn, 2, none⟩ = some (.int .u32 o)) (h1 : w.cell? ⟨bn, 3, none⟩ = some (.int .u32 lc)) (o0 : 0 ≤ o) (o1 : o < 4294967296) (l0 : 0 ≤ lc) (l1 : lc < 4294967296) :
    Calls Try.prog 22 #[.pointer (some ⟨b, 0, none⟩)] w fun e w' => e = .returned (P2 (addO o lc 1) (addL o lc 1)) ∧ Below w.heap.size w w' := by
  have hlt : b < w.heap.size := World.block_lt_of_cell? _ _ h4
  have hlt2 : bn < w.heap.size := World.block_lt_of_cell? _ _ h0
  go_enter Try.func22, Try.ntmps22
  go_wp2_with (first | (go_at_call 34; refine (Lit_End_any _ o lc _ (by simp [go_sem, h0, hlt2]) (by simp [go_sem, h1, hlt2])).mono ?_; rintro e w1 ⟨rfl, hb⟩; have kR1 := (Bk.fresh _ _ _).keep hb; have B1 := bmore (w := w) (by go_grown) hb; clear hb) | (go_at_call 79; refine (addCol_any _ _ _ _ o0 o1 l0 l1 (by omega) (by omega)).mono ?_; rintro e w2 ⟨rfl, hb⟩; have kR2 := kR1.keep hb; have B2 := bmore B1 hb; clear hb kR1 B1; have cR := kR2.cells; have fR := kR2.frz))
  refine bodyPost_ret (v := P2 (addO o lc 1) (addL o lc 1)) (by simp [results, Try.results22, go_sem, cR]) rfl ⟨rfl, ?_⟩
  go_grown
theorem Assign_End_index_naked (b bw : Nat) (o lc : Int) (w : World) (h1' : w.cell? ⟨b, 1, none⟩ = some (.bool true)) (h3 : w.cell? ⟨b, 3, none⟩ = some (.iface 41 (.pointer (some ⟨bw, 0, none⟩)))) (h4 : w.cell? ⟨b, 4, none⟩ = some (.pointer none)) (h5 : w.cell? ⟨b, 5, none⟩ = some (.pointer none))
    (hend : ∀ W, Below w.heap.size w W → Calls Try.prog 60 #[.pointer (some ⟨bw, 0, none⟩)] W fun e w' => e = .returned (P2 o lc) ∧ Below W.heap.size W w') (o0 : 0 ≤ o) (o1 : o < 4294967296) (l0 : 0 ≤ lc) (l1 : lc < 4294967296) :
    Calls Try.prog 22 #[.pointer (some ⟨b, 0, none⟩)] w fun e w' => e = .returned (P2 (addO o lc 1) (addL o lc 1)) ∧ Below w.heap.size w w' := by
  have hlt : b < w.heap.size := World.block_lt_of_cell? _ _ h4
  have HE := Lib.hid hend
  clear hend
  go_enter Try.func22, Try.ntmps22
  go_wp2_with (first | (go_at_call 60; refine (HE.out _ (by go_grown)).mono ?_; rintro e w1 ⟨rfl, hb⟩; have kR1 := (Bk.fresh _ _ _).keep hb; have B1 := bmore (w := w) (by go_grown) hb; clear hb) | (go_at_call 79; refine (addCol_any _ _ _ _ o0 o1 l0 l1 (by omega) (by omega)).mono ?_; rintro e w2 ⟨rfl, hb⟩; have kR2 := kR1.keep hb; have B2 := bmore B1 hb; clear hb kR1 B1; have cR := kR2.cells; have fR := kR2.frz))
  refine bodyPost_ret (v := P2 (addO o lc 1) (addL o lc 1)) (by simp [results, Try.results22, go_sem, cR]) rfl ⟨rfl, ?_⟩
  go_grown
theorem Assign_End_index (b bw : Nat) (o lc : Int) (w : World) (h1' : w.cell? ⟨b, 1, none⟩ = some (.bool false)) (h3 : w.cell? ⟨b, 3, none⟩ = some (.iface 41 (.pointer (some ⟨bw, 0, none⟩)))) (h4 : w.cell? ⟨b, 4, none⟩ = some (.pointer none)) (h5 : w.cell? ⟨b, 5, none⟩ = some (.pointer none))
    (hend : ∀ W, Below w.heap.size w W → Calls Try.prog 60 #[.pointer (some ⟨bw, 0, none⟩)] W fun e w' => e = .returned (P2 o lc) ∧ Below W.heap.size W w') (o0 : 0 ≤ o) (o1 : o < 4294967296) (l0 : 0 ≤ lc) (l1 : lc < 4294967296) :
    Calls Try.prog 22 #[.pointer (some ⟨b, 0, none⟩)] w fun e w' => e = .returned (P2 (addO o lc 2) (addL o lc 2)) ∧ Below w.heap.size w w' := by
  have hlt : b < w.heap.size := World.block_lt_of_cell? _ _ h4
  have HE := Lib.hid hend
  clear hend
  go_enter Try.func22, Try.ntmps22
  go_wp2_with (first | (go_at_call 60; refine (HE.out _ (by go_grown)).mono ?_; rintro e w1 ⟨rfl, hb⟩; have kR1 := (Bk.fresh _ _ _).keep hb; have B1 := bmore (w := w) (by go_grown) hb; clear hb) | (go_at_call 79; refine (addCol_any _ _ _ _ o0 o1 l0 l1 (by omega) (by omega)).mono ?_; rintro e w2 ⟨rfl, hb⟩; have kR2 := kR1.keep hb; have B2 := bmore B1 hb; clear hb kR1 B1; have cR := kR2.cells; have fR := kR2.frz))
  refine bodyPost_ret (v := P2 (addO o lc 2) (addL o lc 2)) (by simp [results, Try.results22, go_sem, cR]) rfl ⟨rfl, ?_⟩
  go_grown
end Go.Proofs.Ytaampofbcbophaa
