/- build at a byte that picks parentheses. -/
import Derived.Test.YtnjdffnbkjjmeaaGrA
namespace Go.Proofs.Ytnjdffnbkjjmeaa
open Go.RowKit
set_option maxHeartbeats 4000000 in
set_option maxRecDepth 100000 in
theorem build_par {bb : Nat} {cA : Option Addr} {cn cc : Nat} {f : Nat → Int} {m : Nat} (ih : BP bb cA cn cc f m) (W : World) (pos : Nat) (A1 : Option Addr) (n1 c1 : Nat) (A2 : Option Addr) (n2 c2 : Nat) (vs : List Value) (ws : List Bool) (q : Bool)
    (hm : cn - pos ≤ m + 1) (hlt : pos < cn) (hn : n1 ≤ 2 * pos) (hn2 : n2 = n1) (hc : Code8 W bb cA cn f) (hb : BS W bb cA cn cc pos A1 n1 c1 A2 n2 c2 vs ws) (hk : f pos % 5 = 2) :
    Calls Try.prog 47 #[ptrV bb, .bool q] W (BQ W bb cA cn cc pos vs ws q) := by
  subst hn2
  obtain ⟨x, rfl, hcx⟩ := hc.1.at_ hlt
  have hbd := hc.2.2.2 pos hlt
  have hcn := hc.2.2.1
  have hlx := World.block_lt_of_cell? _ _ hcx
  have hbb := hb.bk.lt
  have hbb0 := hbb
  have hfz := hb.bk.frz
  have c0 : W.cell? ⟨bb, 0, none⟩ = some (.slice (some x) cn cc) := by rw [hb.bk.cells]; rfl
  have c1' : W.cell? ⟨bb, 1, none⟩ = some (.int .i64 pos) := by rw [hb.bk.cells]; rfl
  have hlt' : (pos : Int) < (cn : Int) := by omega
  have e1 : (f pos % 5 == 1) = false := by simp [hk]
  have e2 : (f pos % 5 == 2) = true := by simp [hk]
  have HC := Lib.hid hc
  have HB := Lib.hid hb
  have HK := Lib.hid hk
  have HM := Lib.hid hm
  have HN := Lib.hid hn
  have hW0 : bb ≤ W.heap.size := by omega
  have HI := Lib.hid ih
  clear hc hb hk hm hn ih
  go_enter Try.func47, Try.ntmps47
  go_wp2_with fail
  go_quiet (fail)
  go_wp2_with fail
  go_quiet (fail)
  go_upto_region 15 with (fail)
  refine wp_gen (S := fun W1 => BS W1 bb (some x) cn cc (pos + 1) A1 n2 c1 A2 n2 c2 vs ws ∧ Bk W1 W.heap.size 85 #[.int .u32 0, .int .u32 0, .int .u32 0, .int .u32 0, .nilIface] ∧ Gr bb W W1) ⟨((HB.out.drewN _).setPos (pos + 1)).alloc _, Bk.newAt (by simp), ((((Gr.refl bb W).drewN _).setB (HB.out.bk.drewN _) 1 _).alloc (by simp; omega) _)⟩ ?_
  clear c0 c1' hcx hlx hfz hbb HB e1 e2 hlt'
  rintro W1 ⟨hb, hp, hg⟩
  have hbb := hb.bk.lt
  have hfz := hb.bk.frz
  have c2' : W1.cell? ⟨bb, 2, none⟩ = some (.slice A1 n2 c1) := by rw [hb.bk.cells]; rfl
  have HB := Lib.hid hb
  have HP := Lib.hid hp
  have HG := Lib.hid hg
  have hN := HN.out
  have hne : W.heap.size ≠ bb := by omega
  clear hb hp hg
  go_upto_region 16 with (at_builtin; refine wpList_nodes rfl _ _ rfl HB.out (by omega) rfl rfl rfl ?_; intro g2 cap2 w2 k2 hb2 hG2; have hf2 := k2.frz; have hlt2 := k2.lt; have c22b : w2.cell? ⟨bb, 2, none⟩ = some (.slice A1 n2 c1) := (by rw [k2.cells]; rfl); have HK2 := Lib.hid k2; have HB2 := Lib.hid hb2; have HG2 := Lib.hid hG2; clear k2 hb2 hG2)
  refine wp_gen (S := fun W3 => BS W3 bb (some x) cn cc (pos + 1) (some ⟨g2, 0, none⟩) (n2 + 1) cap2 A2 n2 c2 (vs ++ [parV W.heap.size]) ws ∧ Bk W3 W.heap.size 85 #[.int .u32 0, .int .u32 0, .int .u32 0, .int .u32 0, .nilIface] ∧ Gr bb W W3) ⟨HB2.out, Bk.far (HG2.out.keeps _ _ _ _ ndP HP.out) hne _, (HG.out.trans HG2.out).setB HK2.out 2 _⟩ ?_
  clear c2' hfz hbb HB HP HG hf2 hlt2 c22b HK2 HB2 HG2
  rintro W3 ⟨hb, hp, hg⟩
  have hbb := hb.bk.lt
  have hfz := hb.bk.frz
  have c2' : W3.cell? ⟨bb, 3, none⟩ = some (.slice A2 n2 c2) := by rw [hb.bk.cells]; rfl
  have HB := Lib.hid hb
  have HP := Lib.hid hp
  have HG := Lib.hid hg
  clear hb hp hg
  go_upto_region 17 with (at_builtin; refine wpList_wants rfl _ _ rfl HB.out (by omega) rfl rfl ?_; intro g4 cap4 w4 k4 hb4 hG4; have hf4 := k4.frz; have hlt4 := k4.lt; have c42b : w4.cell? ⟨bb, 3, none⟩ = some (.slice A2 n2 c2) := (by rw [k4.cells]; rfl); have HK4 := Lib.hid k4; have HB4 := Lib.hid hb4; have HG4 := Lib.hid hG4; clear k4 hb4 hG4)
  refine wp_gen (S := fun W5 => BS W5 bb (some x) cn cc (pos + 1) (some ⟨g2, 0, none⟩) (n2 + 1) cap2 (some ⟨g4, 0, none⟩) (n2 + 1) cap4 (vs ++ [parV W.heap.size]) (ws ++ [q]) ∧ Bk W5 W.heap.size 85 #[.int .u32 0, .int .u32 0, .int .u32 0, .int .u32 0, .nilIface] ∧ Gr bb W W5) ⟨HB4.out, Bk.far (HG4.out.keeps _ _ _ _ ndP HP.out) hne _, (HG.out.trans HG4.out).setB HK4.out 3 _⟩ ?_
  clear c2' hfz hbb HB HP HG hf4 hlt4 c42b HK4 HB4 HG4
  rintro W5 ⟨hb, hp, hg⟩
  have hcall := HI.out W5 (pos + 1) _ _ _ _ _ _ _ _ q (by have := HM.out; omega) (by omega) (by omega) rfl (HC.out.keep hg.below) hb
  have HQ := Lib.hid hcall
  have hpl := hp.lt
  have HP := Lib.hid hp
  have HG := Lib.hid hg
  clear hb hp hg hcall
  go_wp2_with fail
  refine HQ.out.mono ?_
  rintro e w6 ⟨t, pos', B1, m1, d1, B2, m2, d2, rfl, hp1, hp2, hbs, ht, hnd, hlo, hlen, hg6⟩
  obtain ⟨ty, xb, hxv⟩ := t.val_ptr
  rw [hxv]
  have hP6 := hg6.keeps _ _ _ _ ndP HP.out
  have c4 : w6.cell? ⟨W.heap.size, 4, none⟩ = some .nilIface := by rw [Bk.cells hP6]; rfl
  have hf6 := Bk.frz hP6
  have hl6 := Bk.lt hP6
  have HP6 := Lib.hid hP6
  have HBS := Lib.hid hbs
  have HT := Lib.hid ht
  have HD := Lib.hid hnd
  have HL := Lib.hid hlo
  have HN6 := Lib.hid hlen
  have HG6 := Lib.hid hg6
  have HX := Lib.hid hxv
  clear hP6 hbs ht hnd hlo hlen hg6 hxv
  go_wp2_with fail
  go_ret
  have hlo' : ∀ v ∈ t.all, W.heap.size < vblk v := fun v hv => Nat.lt_of_lt_of_le hpl (HL.out v hv)
  have hxe := HX.out
  refine ⟨.par W.heap.size t, pos', B1, m1, d1, B2, m2, d2, rfl, by omega, hp2, ?_, ⟨?_, ?_⟩, ?_, ?_, ?_, ?_⟩
  · simpa [Tr.all, Tr.wants] using HBS.out.setN (p := ⟨W.heap.size, 4, none⟩) (t := 85) HP6.out (by decide) _
  · rw [hxe]; exact Bk.put HP6.out 4 _
  · exact HT.out.far _ (fun v hv => by have := hlo' v hv; show vblk v ≠ W.heap.size; omega)
  · refine List.nodup_cons.2 ⟨fun hm => ?_, HD.out⟩
    have := hlo' _ hm
    simp [vblk] at this
  · intro v hv
    rcases List.mem_cons.1 hv with rfl | hv
    · exact Nat.le_refl _
    · have := hlo' v hv; omega
  · have := HN6.out
    simp only [Tr.all, List.length_cons]
    omega
  · exact (HG.out.trans HG6.out).setN (Nat.le_refl _) hW0 _
end Go.Proofs.Ytnjdffnbkjjmeaa
