/- build behind the last byte of the code. -/
import Derived.Test.YtnjdffnbkjjmeaaLitW
namespace Go.Proofs.Ytnjdffnbkjjmeaa
open Go.RowKit
set_option maxHeartbeats 4000000 in
set_option maxRecDepth 100000 in
theorem build_end {bb : Nat} {cA : Option Addr} {cn cc : Nat} {f : Nat → Int} (W : World) (pos : Nat) (A1 : Option Addr) (n1 c1 : Nat) (A2 : Option Addr) (n2 c2 : Nat) (vs : List Value) (ws : List Bool) (q : Bool)
    (hlt : pos = cn) (hn : n1 ≤ 2 * pos) (hn2 : n2 = n1) (hc : Code8 W bb cA cn f) (hb : BS W bb cA cn cc pos A1 n1 c1 A2 n2 c2 vs ws) :
    Calls Try.prog 47 #[ptrV bb, .bool q] W (BQ W bb cA cn cc pos vs ws q) := by
  subst hn2
  have hcn := hc.2.2.1
  have hbb := hb.bk.lt
  have hbb0 := hbb
  have hfz := hb.bk.frz
  have c0 : W.cell? ⟨bb, 0, none⟩ = some (.slice cA cn cc) := by rw [hb.bk.cells]; rfl
  have c1' : W.cell? ⟨bb, 1, none⟩ = some (.int .i64 pos) := by rw [hb.bk.cells]; rfl
  have hlt' : ¬ (pos : Int) < (cn : Int) := by omega
  have HC := Lib.hid hc
  have HB := Lib.hid hb
  have HN := Lib.hid hn
  have hW0 : bb ≤ W.heap.size := by omega
  clear hc hb hn
  go_enter Try.func47, Try.ntmps47
  go_wp2_with fail
  go_quiet (fail)
  go_upto_region 31 with (fail)
  refine wp_gen (S := fun W1 => BS W1 bb cA cn cc pos A1 n2 c1 A2 n2 c2 vs ws ∧ Gr bb W W1) ⟨(HB.out.drewN _), ((Gr.refl bb W).drewN _)⟩ ?_
  clear c0 c1' hfz hbb HB
  rintro W1 ⟨hb, hg⟩
  have HB := Lib.hid hb
  have HG := Lib.hid hg
  have hN := HN.out
  have hbb := hb.bk.lt
  clear hb hg
  go_wp2_with fail
  refine (litWord116 _ W1).mono ?_
  rintro e W2 ⟨wb, cs, rfl, hlo, hk, hbel⟩
  have hb2 := HB.out.calls hbel
  have hg2 := HG.out.calls (by omega) hbel
  have hlo2 : W.heap.size ≤ wb := Nat.le_trans HG.out.below.size hlo
  have HB2 := Lib.hid hb2
  have HG2 := Lib.hid hg2
  have HK := Lib.hid hk
  have hfz := hb2.bk.frz
  have hbb2 := hb2.bk.lt
  have c2' : W2.cell? ⟨bb, 2, none⟩ = some (.slice A1 n2 c1) := by rw [hb2.bk.cells]; rfl
  clear hb2 hg2 hk hbel hlo HB HG
  go_upto_region 33 with (at_builtin; refine wpList_nodes rfl _ _ rfl HB2.out (by omega) rfl rfl rfl ?_; intro g3 cap3 w3 k3 hb3 hG3; have hf3 := k3.frz; have hlt3 := k3.lt; have c23b : w3.cell? ⟨bb, 2, none⟩ = some (.slice A1 n2 c1) := (by rw [k3.cells]; rfl); have HK3 := Lib.hid k3; have HB3 := Lib.hid hb3; have HG3 := Lib.hid hG3; clear k3 hb3 hG3)
  have hne : wb ≠ bb := by omega
  refine wp_gen (S := fun W4 => BS W4 bb cA cn cc pos (some ⟨g3, 0, none⟩) (n2 + 1) cap3 A2 n2 c2 (vs ++ [leafV wb]) ws ∧ Bk W4 wb 129 cs ∧ Gr bb W W4) ⟨HB3.out, Bk.far (HG3.out.keeps _ _ _ _ ndW HK.out) hne _, (HG2.out.trans HG3.out).setB HK3.out 2 _⟩ ?_
  clear c2' hfz HB2 HK HG2 hf3 hlt3 c23b HK3 HB3 HG3 hbb2
  rintro W4 ⟨hb, hp, hg⟩
  have hbb4 := hb.bk.lt
  have hfz := hb.bk.frz
  have c2' : W4.cell? ⟨bb, 3, none⟩ = some (.slice A2 n2 c2) := by rw [hb.bk.cells]; rfl
  have HB := Lib.hid hb
  have HP := Lib.hid hp
  have HG := Lib.hid hg
  clear hb hp hg
  go_wp2_with (at_builtin; refine wpList_wants rfl _ _ rfl HB.out (by omega) rfl rfl ?_; intro g5 cap5 w5 k5 hb5 hG5; have hf5 := k5.frz; have hlt5 := k5.lt; have c52b : w5.cell? ⟨bb, 3, none⟩ = some (.slice A2 n2 c2) := (by rw [k5.cells]; rfl); have HK5 := Lib.hid k5; have HB5 := Lib.hid hb5; have HG5 := Lib.hid hG5; clear k5 hb5 hG5)
  go_ret
  refine ⟨.leaf wb, pos, _, _, _, _, _, _, rfl, by omega, by omega, HB5.out, ⟨cs, Bk.far (HG5.out.keeps _ _ _ _ ndW HP.out) hne _⟩, by simp [Tr.all], ?_, by simp [Tr.all], (HG.out.trans HG5.out).setB HK5.out 3 _⟩
  intro v hv
  rw [Tr.all, List.mem_singleton] at hv
  subst hv
  exact hlo2
end Go.Proofs.Ytnjdffnbkjjmeaa
