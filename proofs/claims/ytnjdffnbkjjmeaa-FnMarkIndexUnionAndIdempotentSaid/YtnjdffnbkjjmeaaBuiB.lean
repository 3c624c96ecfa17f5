/- build at a byte that picks a binary node. -/
import Derived.Test.YtnjdffnbkjjmeaaGrA
namespace Go.Proofs.Ytnjdffnbkjjmeaa
open Go.RowKit
set_option maxHeartbeats 4000000 in
set_option maxRecDepth 100000 in
theorem build_bin {bb : Nat} {cA : Option Addr} {cn cc : Nat} {f : Nat → Int} {m : Nat} (ih : BP bb cA cn cc f m) (W : World) (pos : Nat) (A1 : Option Addr) (n1 c1 : Nat) (A2 : Option Addr) (n2 c2 : Nat) (vs : List Value) (ws : List Bool) (q : Bool)
    (hm : cn - pos ≤ m + 1) (hlt : pos < cn) (hn : n1 ≤ 2 * pos) (hn2 : n2 = n1) (hc : Code8 W bb cA cn f) (hb : BS W bb cA cn cc pos A1 n1 c1 A2 n2 c2 vs ws) (hk : f pos % 5 = 1) :
    Calls Try.prog 47 #[ptrV bb, .bool q] W (BQ W bb cA cn cc pos vs ws q) := by
  subst hn2
  obtain ⟨x, rfl, hcx⟩ := hc.1.at_ hlt
  have hbd := hc.2.2.2 pos hlt
  have hcn := hc.2.2.1
  have hlx := World.block_lt_of_cell? _ _ hcx
  have hbb := hb.bk.lt
  have hbb0 := hbb
  have hfz := hb.bk.frz
  have c0 : W.cell? ⟨bb, 0, none⟩ = some (.slice (some x) cn cc) := by rw [hb.bk.cells]; rfl
  have c1' : W.cell? ⟨bb, 1, none⟩ = some (.int .i64 pos) := by rw [hb.bk.cells]; rfl
  have hlt' : (pos : Int) < (cn : Int) := by omega
  have e1 : (f pos % 5 == 1) = true := by simp [hk]
  have HC := Lib.hid hc
  have HB := Lib.hid hb
  have HK := Lib.hid hk
  have HM := Lib.hid hm
  have HN := Lib.hid hn
  have HV := Lib.hid hb.len1
  have hW0 : bb ≤ W.heap.size := by omega
  have HI := Lib.hid ih
  clear hc hb hk hm hn ih
  go_enter Try.func47, Try.ntmps47
  go_wp2_with fail
  go_quiet (fail)
  go_wp2_with fail
  go_quiet (fail)
  go_upto_region 8 with (fail)
  refine wp_gen (S := fun W1 => BS W1 bb (some x) cn cc (pos + 1) A1 n2 c1 A2 n2 c2 vs ws ∧ Bk W1 W.heap.size 92 #[.int .u32 0, .int .u32 0, .int .u32 81, .nilIface, .nilIface] ∧ Gr bb W W1) ⟨((HB.out.drewN _).setPos (pos + 1)).alloc _, Bk.newAt (by simp), ((((Gr.refl bb W).drewN _).setB (HB.out.bk.drewN _) 1 _).alloc (by simp; omega) _)⟩ ?_
  clear c0 c1' hcx hlx hfz hbb HB e1 hlt'
  rintro W1 ⟨hb, hp, hg⟩
  have hbb := hb.bk.lt
  have hfz := hb.bk.frz
  have c2' : W1.cell? ⟨bb, 2, none⟩ = some (.slice A1 n2 c1) := by rw [hb.bk.cells]; rfl
  have HB := Lib.hid hb
  have HP := Lib.hid hp
  have HG := Lib.hid hg
  have hN := HN.out
  have hne : W.heap.size ≠ bb := by omega
  clear hb hp hg
  go_upto_region 9 with (at_builtin; refine wpList_nodes rfl _ _ rfl HB.out (by omega) rfl rfl rfl ?_; intro g2 cap2 w2 k2 hb2 hG2; have hf2 := k2.frz; have hlt2 := k2.lt; have c22b : w2.cell? ⟨bb, 2, none⟩ = some (.slice A1 n2 c1) := (by rw [k2.cells]; rfl); have HK2 := Lib.hid k2; have HB2 := Lib.hid hb2; have HG2 := Lib.hid hG2; clear k2 hb2 hG2)
  refine wp_gen (S := fun W3 => BS W3 bb (some x) cn cc (pos + 1) (some ⟨g2, 0, none⟩) (n2 + 1) cap2 A2 n2 c2 (vs ++ [binV W.heap.size]) ws ∧ Bk W3 W.heap.size 92 #[.int .u32 0, .int .u32 0, .int .u32 81, .nilIface, .nilIface] ∧ Gr bb W W3) ⟨HB2.out, Bk.far (HG2.out.keeps _ _ _ _ ndB HP.out) hne _, (HG.out.trans HG2.out).setB HK2.out 2 _⟩ ?_
  clear c2' hfz hbb HB HP HG hf2 hlt2 c22b HK2 HB2 HG2
  rintro W3 ⟨hb, hp, hg⟩
  have hbb := hb.bk.lt
  have hfz := hb.bk.frz
  have c2' : W3.cell? ⟨bb, 3, none⟩ = some (.slice A2 n2 c2) := by rw [hb.bk.cells]; rfl
  have HB := Lib.hid hb
  have HP := Lib.hid hp
  have HG := Lib.hid hg
  clear hb hp hg
  go_upto_region 10 with (at_builtin; refine wpList_wants rfl _ _ rfl HB.out (by omega) rfl rfl ?_; intro g4 cap4 w4 k4 hb4 hG4; have hf4 := k4.frz; have hlt4 := k4.lt; have c42b : w4.cell? ⟨bb, 3, none⟩ = some (.slice A2 n2 c2) := (by rw [k4.cells]; rfl); have HK4 := Lib.hid k4; have HB4 := Lib.hid hb4; have HG4 := Lib.hid hG4; clear k4 hb4 hG4)
  refine wp_gen (S := fun W5 => BS W5 bb (some x) cn cc (pos + 1) (some ⟨g2, 0, none⟩) (n2 + 1) cap2 (some ⟨g4, 0, none⟩) (n2 + 1) cap4 (vs ++ [binV W.heap.size]) (ws ++ [q]) ∧ Bk W5 W.heap.size 92 #[.int .u32 0, .int .u32 0, .int .u32 81, .nilIface, .nilIface] ∧ Gr bb W W5) ⟨HB4.out, Bk.far (HG4.out.keeps _ _ _ _ ndB HP.out) hne _, (HG.out.trans HG4.out).setB HK4.out 3 _⟩ ?_
  clear c2' hfz hbb HB HP HG hf4 hlt4 c42b HK4 HB4 HG4
  rintro W5 ⟨hb, hp, hg⟩
  have hcall := HI.out W5 (pos + 1) _ _ _ _ _ _ _ _ q (by have := HM.out; omega) (by omega) (by omega) rfl (HC.out.keep hg.below) hb
  have HQ := Lib.hid hcall
  have hpl := hp.lt
  have HP := Lib.hid hp
  have HG := Lib.hid hg
  clear hb hp hg hcall
  go_wp2_with fail
  refine HQ.out.mono ?_
  rintro e w6 ⟨t, pos', B1, m1, d1, B2, m2, d2, rfl, hp1, hp2, hbs, ht, hnd, hlo, hlen, hg6⟩
  obtain ⟨ty, xb, hxv⟩ := t.val_ptr
  rw [hxv]
  have hP6 := hg6.keeps _ _ _ _ ndB HP.out
  have c4 : w6.cell? ⟨W.heap.size, 3, none⟩ = some .nilIface := by rw [Bk.cells hP6]; rfl
  have hf6 := Bk.frz hP6
  have hl6 := Bk.lt hP6
  have HP6 := Lib.hid hP6
  have HBS := Lib.hid hbs
  have HT := Lib.hid ht
  have HD := Lib.hid hnd
  have HL := Lib.hid hlo
  have HN6 := Lib.hid hlen
  have HG6 := Lib.hid hg6
  have HX := Lib.hid hxv
  clear hP6 hbs ht hnd hlo hlen hg6 hxv
  go_upto_region 11 with (fail)
  have hlo' : ∀ v ∈ t.all, W.heap.size < vblk v := fun v hv => Nat.lt_of_lt_of_le hpl (HL.out v hv)
  have hxe := HX.out
  have HLO := Lib.hid hlo'
  refine wp_gen (S := fun W7 => w6.heap.size ≤ W7.heap.size ∧ BS W7 bb (some x) cn cc pos' B1 m1 d1 B2 m2 d2 ((vs ++ [binV W.heap.size]) ++ t.all) ((ws ++ [q]) ++ t.wants q) ∧ Bk W7 W.heap.size 92 #[.int .u32 0, .int .u32 0, .int .u32 81, t.val, .nilIface] ∧ Gr bb W W7 ∧ TrIs W7 t)
    ⟨by simp, HBS.out.setN (p := ⟨W.heap.size, 3, none⟩) (t := 92) HP6.out (by decide) _, by rw [hxe]; exact Bk.put HP6.out 3 _, (HG.out.trans HG6.out).setN (Nat.le_refl _) hW0 _, HT.out.far _ (fun v hv => by have := HLO.out v hv; show vblk v ≠ W.heap.size; omega)⟩ ?_
  have hlt6 : ∀ v ∈ t.all, vblk v < w6.heap.size := fun v hv => (HT.out.allNd v hv).vblk_lt
  have HL6 := Lib.hid hlt6
  clear hlo' hlt6 HBS HP6 HG HG6 HT c4 hf6 hl6 HP hxe
  rintro W7 ⟨hs7, hb, hp, hg, ht⟩
  have HS7 := Lib.hid hs7
  clear hs7
  have hlens := hb.len1
  have hlen' : m1 = n2 + 1 + t.all.length ∧ m2 = m1 := by
    have h1 := hlens.1
    have h2 := hlens.2
    have h3 := HV.out
    have h4 := Tr.len t q
    simp at h1 h2
    omega
  have hm12 := hlen'.2
  subst hm12
  have hcall := HI.out W7 pos' _ _ _ _ _ _ _ _ q (by have := HM.out; omega) hp2 (by have := HN6.out; have := hlen'.1; have := HN.out; omega) rfl (HC.out.keep hg.below) hb
  have HQ2 := Lib.hid hcall
  have hpl7 := hp.lt
  have HP := Lib.hid hp
  have HG := Lib.hid hg
  have HT := Lib.hid ht
  have HLEN := Lib.hid hlen'
  clear hb hp hg hcall ht hlens hlen'
  go_wp2_with fail
  refine HQ2.out.mono ?_
  rintro e w8 ⟨t2, pos2, C1, k1, l1, C2, k2, l2, rfl, hq1, hq2, hbs, ht2, hnd2, hlo2, hlen2, hg8⟩
  obtain ⟨ty2, yb, hyv⟩ := t2.val_ptr
  rw [hyv]
  have hP8 := hg8.keeps _ _ _ _ ndB HP.out
  have c5 : w8.cell? ⟨W.heap.size, 4, none⟩ = some .nilIface := by rw [Bk.cells hP8]; rfl
  have hf8 := Bk.frz hP8
  have hl8 := Bk.lt hP8
  have HP8 := Lib.hid hP8
  have HBS := Lib.hid hbs
  have HT1 := Lib.hid (HT.out.keep hg8.keeps)
  have HT2 := Lib.hid ht2
  have HD2 := Lib.hid hnd2
  have HL2 := Lib.hid hlo2
  have HN8 := Lib.hid hlen2
  have HG8 := Lib.hid hg8
  have HY := Lib.hid hyv
  clear hP8 hbs ht2 hnd2 hlo2 hlen2 hg8 hyv
  go_wp2_with fail
  go_ret
  have hle7 := HS7.out
  have hlo3 : ∀ v ∈ t2.all, W.heap.size < vblk v := fun v hv => Nat.lt_of_lt_of_le hpl7 (HL2.out v hv)
  have hye := HY.out
  refine ⟨.bin W.heap.size t t2, pos2, C1, k1, l1, C2, k2, l2, rfl, by omega, hq2, ?_, ⟨?_, ?_, ?_⟩, ?_, ?_, ?_, ?_⟩
  · simpa [Tr.all, Tr.wants] using HBS.out.setN (p := ⟨W.heap.size, 4, none⟩) (t := 92) HP8.out (by decide) _
  · rw [hye]; exact Bk.put HP8.out 4 _
  · exact HT1.out.far _ (fun v hv => by have := HLO.out v hv; show vblk v ≠ W.heap.size; omega)
  · exact HT2.out.far _ (fun v hv => by have := hlo3 v hv; show vblk v ≠ W.heap.size; omega)
  · refine List.nodup_cons.2 ⟨fun hm => ?_, List.nodup_append.2 ⟨HD.out, HD2.out, ?_⟩⟩
    · rcases List.mem_append.1 hm with hm | hm
      · have := HLO.out _ hm
        simp [vblk] at this
      · have := hlo3 _ hm
        simp [vblk] at this
    · rintro a ha b hb2 rfl
      have h1 := HL6.out a ha
      have h2 := HL2.out a hb2
      omega
  · intro v hv
    rcases List.mem_cons.1 hv with rfl | hv
    · exact Nat.le_refl _
    · rcases List.mem_append.1 hv with hv | hv
      · have := HLO.out v hv; omega
      · have := hlo3 v hv; omega
  · have h1 := HN6.out
    have h2 := HN8.out
    simp only [Tr.all, List.length_cons, List.length_append]
    omega
  · exact (HG.out.trans HG8.out).setN (Nat.le_refl _) hW0 _
end Go.Proofs.Ytnjdffnbkjjmeaa
