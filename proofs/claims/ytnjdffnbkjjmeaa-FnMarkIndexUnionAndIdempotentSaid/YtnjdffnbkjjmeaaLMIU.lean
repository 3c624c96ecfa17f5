/- The walk of FnMarkIndexUnionAndIdempotent. -/
import Derived.Test.YtnjdffnbkjjmeaaMIU
namespace Go.Proofs.Ytnjdffnbkjjmeaa
open Go.RowKit
set_option maxHeartbeats 8000000 in
set_option maxRecDepth 100000 in
theorem walkFnMarkIndexUnionAndIdempotent (a0 : Option Addr) (len0 cap0 : Nat) (z0 : List Int) (a1 : Option Addr) (len1 cap1 : Nat) (z1 : List Int) (w : World) (w0 : IsRow .u8 w a0 len0 cap0 z0) (w1 : IsRow .u8 w a1 len1 cap1 z1) :
    Calls Try.prog 9 #[.slice a0 len0 cap0, .slice a1 len1 cap1] w fun e w' => e = .returned (.bool true) ∧ Below w.heap.size w w' := by
  have l0 := w0.len
  have l1 := w1.len
  have HR0 := Lib.hid w0
  have HR1 := Lib.hid w1
  have b0 : len0 ≤ 9223372036854775807 := by omega
  have b1 : len1 ≤ 9223372036854775807 := by omega
  clear w0 w1
  go_enter Try.func9, Try.ntmps9
  go_wp2_with fail
  refine (zzBytesMI_any a0 a1 len0 cap0 len1 cap1 w b0 b1).mono ?_
  rintro e w' ⟨b, rfl, rfl⟩
  cases b
  · go_wp2
    go_ret
    exact ⟨rfl, Below.refl _ _⟩
  by_cases g0 : 4096 < len0
  · have g0' : (4096 : Int) < (len0 : Int) := by omega
    go_wp2
    all_goals (go_ret; exact ⟨rfl, Below.refl _ _⟩)
  by_cases g1 : 4096 < len1
  · have g0' : ¬ (4096 : Int) < (len0 : Int) := by omega
    have g1' : (4096 : Int) < (len1 : Int) := by omega
    go_wp2
    all_goals (go_ret; exact ⟨rfl, Below.refl _ _⟩)
  have g0' : ¬ (4096 : Int) < (len0 : Int) := by omega
  have g1' : ¬ (4096 : Int) < (len1 : Int) := by omega
  have HL0 := Lib.hid l0
  have HL1 := Lib.hid l1
  clear l0 l1
  go_wp2_with fail
  refine (n010_116_zzB1CloneBytes_any a0 len0 cap0 (fun i => z0.getD i 0) w HR0.out.src (fun h => by subst h; exact HR0.out.nilcap.2) (by omega)).mono ?_
  rintro e w1 ⟨A, rfl, hA, hb1⟩
  have HA := Lib.hid hA
  have HB1 := Lib.hid hb1
  have HS1 := Lib.hid (HR1.out.src.keep hb1)
  clear hA hb1
  go_wp2_with fail
  refine (n010_116_zzB1CloneBytes_any a1 len1 cap1 (fun i => z1.getD i 0) w1 HS1.out (fun h => by subst h; exact HR1.out.nilcap.2) (by omega)).mono ?_
  rintro e w2 ⟨B, rfl, hB, hb2⟩
  have HA2 := Lib.hid (HA.out.keep hb2)
  have HB2 := Lib.hid hB
  have HW2 := Lib.hid (HB1.out.trans (hb2.mono HB1.out.size))
  clear hB hb2 HA HB1 HS1
  have f0 : ∀ i, i < len0 → 0 ≤ z0.getD i 0 ∧ z0.getD i 0 < 256 := fun i hi => by
    have := bounds_u8 (HR0.out.wf hi)
    omega
  have f1 : ∀ i, i < len1 → 0 ≤ z1.getD i 0 ∧ z1.getD i 0 < 256 := fun i hi => by
    have := bounds_u8 (HR1.out.wf hi)
    omega
  have F0 := Lib.hid f0
  have F1 := Lib.hid f1
  clear f0 f1
  go_wp2_with fail
  refine (build_top w2 HA2.out (by omega) F0.out).mono ?_
  rintro e w3 ⟨ta, rfl, ha3, hta3, hna, hla, hca, hb3⟩
  have HB3 := Lib.hid (HB2.out.keep hb3)
  have hs3 := hb3.size
  obtain ⟨ty, xa, hxa⟩ := ta.val_ptr
  have HXA := Lib.hid hxa
  rw [hxa]
  clear hxa
  have HA3 := Lib.hid ha3
  have HT3 := Lib.hid hta3
  have HNA := Lib.hid hna
  have HLA := Lib.hid hla
  have HW3 := Lib.hid (HW2.out.trans (hb3.mono HW2.out.size))
  clear ha3 hta3 hna hla hb3 HA2 HB2
  go_wp2_with fail
  refine (build_top w3 HB3.out (by omega) F1.out).mono ?_
  rintro e w4 ⟨tb, rfl, hb4, htb4, hnb, hlb, hcb, hbel⟩
  obtain ⟨ty2, xb, hxb⟩ := tb.val_ptr
  have HXB := Lib.hid hxb
  have hls : LS w w4 w2.heap.size w3.heap.size ta tb := by
    refine ⟨HA3.out.keep hbel, hb4, HT3.out.keep (Keeps.below hbel (Nat.le_refl _)), htb4, ?_, hca, hcb, HW2.out.size, HW3.out.size, HW3.out.trans (hbel.mono HW3.out.size)⟩
    refine List.nodup_append.2 ⟨HNA.out, hnb, ?_⟩
    rintro a ha b hb rfl
    have h1 := (HT3.out.allNd a ha).vblk_lt
    have h2 := hlb a hb
    omega
  rw [hxb]
  clear hxb hb4 htb4 hnb hlb hbel HA3 HT3 HNA HLA HB3
  have HS := Lib.hid hls
  clear hls
  obtain ⟨ca, hca1⟩ : ∃ n : Nat, n = (ta.wants true).count true := ⟨_, rfl⟩
  obtain ⟨cb, hcb1⟩ : ∃ n : Nat, n = (tb.wants true).count true := ⟨_, rfl⟩
  have bca : ca ≤ 8193 := by
    have h1 := List.count_le_length (a := true) (l := ta.wants true)
    rw [Tr.len, ← hca1] at h1
    omega
  have bcb : cb ≤ 8193 := by
    have h1 := List.count_le_length (a := true) (l := tb.wants true)
    rw [Tr.len, ← hcb1] at h1
    omega
  have HCA := Lib.hid hca1
  have HCB := Lib.hid hcb1
  have hq1 := wantCount_ HS.out.a hca
  have hq2 := wantCount_ HS.out.b hcb
  rw [← hca1] at hq1
  rw [← hcb1] at hq2
  have HQ1 := Lib.hid hq1
  have HQ2 := Lib.hid hq2
  clear hq1 hq2 hca1 hcb1
  go_wp2_with fail
  refine HQ1.out.mono ?_
  rintro e w' ⟨rfl, rfl⟩
  go_wp2_with fail
  refine HQ2.out.mono ?_
  rintro e w' ⟨rfl, rfl⟩
  clear HQ1 HQ2
  go_wp2_with fail
  refine (newSimp w4).mono ?_
  rintro e w5 ⟨s, mb, rfl, hsi, hb5, hmb⟩
  have HS5 := Lib.hid (HS.out.keep hb5)
  have hmb' : w.heap.size ≤ mb := Nat.le_trans HS.out.below.size hmb
  have HSI := Lib.hid hsi
  clear hsi hb5 hmb HS
  have hm1 := mark1 HS5.out HSI.out hmb'
  rw [HXA.out] at hm1
  have HM := Lib.hid hm1
  clear hm1
  go_wp2_with fail
  refine HM.out.mono ?_
  rintro e w6 ⟨rfl, hsi, hls⟩
  have HS6 := Lib.hid hls
  have HSI6 := Lib.hid hsi
  have hkc := keptCount hsi
  rw [Tr.keysLen, ← HCA.out] at hkc
  have HKC := Lib.hid hkc
  clear hkc hsi hls HM HS5 HSI
  go_wp2_with fail
  refine HKC.out.mono ?_
  rintro e w' ⟨rfl, rfl⟩
  clear HKC
  have hm1 := mark2 HS6.out HSI6.out hmb'
  rw [HXB.out] at hm1
  have HM := Lib.hid hm1
  clear hm1
  go_wp2_with fail
  refine HM.out.mono ?_
  rintro e w7 ⟨rfl, hsi, hls⟩
  have HS7 := Lib.hid hls
  have HSI7 := Lib.hid hsi
  have hkc := keptCount hsi
  rw [List.length_append, Tr.keysLen, Tr.keysLen, ← HCA.out, ← HCB.out] at hkc
  have HKC := Lib.hid hkc
  clear hkc hsi hls HM HS6 HSI6
  go_wp2_with fail
  refine HKC.out.mono ?_
  rintro e w' ⟨rfl, rfl⟩
  clear HKC
  have hm1 := mark3 HS7.out HSI7.out hmb'
  rw [HXA.out] at hm1
  have HM := Lib.hid hm1
  clear hm1
  go_wp2_with fail
  refine HM.out.mono ?_
  rintro e w8 ⟨rfl, hsi, hls⟩
  have HS8 := Lib.hid hls
  have HSI8 := Lib.hid hsi
  have hkc := keptCount hsi
  rw [List.length_append, Tr.keysLen, Tr.keysLen, ← HCA.out, ← HCB.out] at hkc
  have HKC := Lib.hid hkc
  clear hkc hsi hls HM HS7 HSI7
  go_wp2_with fail
  refine HKC.out.mono ?_
  rintro e w' ⟨rfl, rfl⟩
  clear HKC
  obtain ⟨g1, k1, c2, hcn⟩ := HS8.out.a.node
  have lba := World.block_lt_of_cell? _ _ c2
  have hmk := makeBools ta.all.length (by omega)
  clear hcn
  go_wp2_with fail
  refine wp_gen (S := fun W => RowF W w8.heap.size w8.heap.size 4 ta.all.length (fun _ => .bool false) ∧ Below w8.heap.size w8 W) ⟨RowF.fresh _ _ _ (Nat.le_refl _) (by unfold maxLen; omega), by go_grown⟩ ?_
  clear hmk c2 lba
  rintro W ⟨hR, hB⟩
  have hWA := Tr.len ta true
  have HWA := Lib.hid hWA
  have hWB := Tr.len tb true
  have HWB := Lib.hid hWB
  clear hWA hWB
  go_loopw [13] (fun i wr => ∃ k : Nat, k ≤ ta.all.length ∧ i = .int .i64 k ∧ RowF wr w8.heap.size w8.heap.size 4 ta.all.length (fun j => if j < k then .bool ((ta.wants true).getD j false) else .bool false) ∧ Below w8.heap.size w8 wr) (fun i _ => ta.all.length - (intOf i).toNat)
  case atStart => exact ⟨0, by omega, by go_num, hR.congr (fun j _ => by simp), hB⟩
  case round =>
    clear hR hB
    obtain ⟨k, hk, rfl, hR, hB⟩ := hrel
    have hS := HS8.out.keep hB
    have hI := HSI8.out.keep hB
    obtain ⟨g1, k1, c2, hcn⟩ := hS.a.node
    have lba := World.block_lt_of_cell? _ _ c2
    by_cases hlt : k < ta.all.length
    · have hv : ta.all[k]? = some ta.all[k] := List.getElem?_eq_getElem hlt
      have hb : ∃ b, (ta.wants true)[k]? = some b := ⟨_, List.getElem?_eq_getElem (by rw [HWA.out]; exact hlt)⟩
      obtain ⟨b, hb⟩ := hb
      have hkp := keptA hS hI hv hb
      have hgd : (ta.wants true).getD k false = b := by simp [List.getD, hb]
      have cn := hcn k _ hv
      obtain ⟨ty3, x3, hx3⟩ := nd_ptr (hS.xa.allNd _ (List.mem_of_getElem? hv))
      rw [hx3] at cn hkp
      have lg1 := World.block_lt_of_cell? _ _ cn
      have HKP := Lib.hid hkp
      have HGD := Lib.hid hgd
      have hd := hR.cell hlt
      have hf := hR.frz k
      have hg := hR.lt.2
      rw [if_neg (by omega)] at hd
      have hlt' : (k : Int) < (ta.all.length : Int) := by omega
      have HR := Lib.hid hR
      clear hR hcn hv hb hkp hgd hx3 hS hI
      go_wp2_with fail
      refine HKP.out.mono ?_
      rintro e w' ⟨rfl, rfl⟩
      go_wp2
      go_roundw
      case rel => exact ⟨k + 1, by omega, by go_num, (HR.out.put _).congr (fun j hj => by
        by_cases h1 : j = k
        · subst h1; simp only [if_pos, Nat.lt_succ_self, HGD.out]
        · by_cases h2 : j < k
          · rw [if_neg h1, if_pos h2, if_pos (by omega)]
          · rw [if_neg h1, if_neg h2, if_neg (by omega)]), hB.setCell (by simp) _⟩
      case measure => simp [intOf]; omega
    · obtain rfl : k = ta.all.length := by omega
      have HRA := Lib.hid (hR.congr (f' := fun j => .bool ((ta.wants true).getD j false)) (fun j hj => by simp [hj]))
      have HS9 := Lib.hid hS
      have HI9 := Lib.hid hI
      have hlt' : ¬ (ta.all.length : Int) < (ta.all.length : Int) := by omega
      have hmk := makeBools tb.all.length (by omega)
      obtain ⟨g2, k2, c3, _⟩ := hS.b.node
      have lbb := World.block_lt_of_cell? _ _ c3
      clear hR hS hI hcn HS8 HSI8 hB
      go_wp2_with fail
      refine wp_gen (S := fun W => RowF W wr.heap.size wr.heap.size 4 tb.all.length (fun _ => .bool false) ∧ Below wr.heap.size wr W) ⟨RowF.fresh _ _ _ (Nat.le_refl _) (by unfold maxLen; omega), by go_grown⟩ ?_
      clear hmk c2 lba c3 lbb
      rintro W2 ⟨hR, hB⟩
      go_loopw [15] (fun i wx => ∃ k : Nat, k ≤ tb.all.length ∧ i = .int .i64 k ∧ RowF wx wr.heap.size wr.heap.size 4 tb.all.length (fun j => if j < k then .bool ((tb.wants true).getD j false) else .bool false) ∧ Below wr.heap.size wr wx) (fun i _ => tb.all.length - (intOf i).toNat)
      case atStart => exact ⟨0, by omega, by go_num, hR.congr (fun j _ => by simp), hB⟩
      case round =>
        clear hR hB
        obtain ⟨q, hq, rfl, hR, hB⟩ := hrel
        have hS := HS9.out.keep hB
        have hI := HI9.out.keep hB
        obtain ⟨g1, k1, c2, hcn⟩ := hS.b.node
        have lba := World.block_lt_of_cell? _ _ c2
        by_cases hltq : q < tb.all.length
        · have hv : tb.all[q]? = some tb.all[q] := List.getElem?_eq_getElem hltq
          have hb : ∃ b, (tb.wants true)[q]? = some b := ⟨_, List.getElem?_eq_getElem (by rw [HWB.out]; exact hltq)⟩
          obtain ⟨b, hb⟩ := hb
          have hkp := keptB hS hI hv hb
          have hgd : (tb.wants true).getD q false = b := by simp [List.getD, hb]
          have cn := hcn q _ hv
          obtain ⟨ty3, x3, hx3⟩ := nd_ptr (hS.xb.allNd _ (List.mem_of_getElem? hv))
          rw [hx3] at cn hkp
          have lg1 := World.block_lt_of_cell? _ _ cn
          have HKP := Lib.hid hkp
          have HGD := Lib.hid hgd
          have hd := hR.cell hltq
          have hf := hR.frz q
          have hg := hR.lt.2
          rw [if_neg (by omega)] at hd
          have hltq' : (q : Int) < (tb.all.length : Int) := by omega
          have HR := Lib.hid hR
          clear hR hcn hv hb hkp hgd hx3 hS hI
          go_wp2_with fail
          refine HKP.out.mono ?_
          rintro e w' ⟨rfl, rfl⟩
          go_wp2
          go_roundw
          case rel => exact ⟨q + 1, by omega, by go_num, (HR.out.put _).congr (fun j hj => by
            by_cases h1 : j = q
            · subst h1; simp only [if_pos, Nat.lt_succ_self, HGD.out]
            · by_cases h2 : j < q
              · rw [if_neg h1, if_pos h2, if_pos (by omega)]
              · rw [if_neg h1, if_neg h2, if_neg (by omega)]), hB.setCell (by simp) _⟩
          case measure => simp [intOf]; omega
        · obtain rfl : q = tb.all.length := by omega
          have hRB := hR.congr (f' := fun j => .bool ((tb.wants true).getD j false)) (fun j hj => by simp [hj])
          have hka := keptAs_ (c := ta.all.length) hS.a hca (HRA.out.keep hB) (fun j b hj => by simp [List.getD, hj])
          have hlt2' : ¬ (tb.all.length : Int) < (tb.all.length : Int) := by omega
          have HKA := Lib.hid hka
          have HSX := Lib.hid hS
          have HIX := Lib.hid hI
          have HRB := Lib.hid hRB
          clear hR hcn hRB hka hS hI
          go_wp2_with fail
          refine HKA.out.mono ?_
          rintro e v1 ⟨rfl, hv1⟩
          have hkb := keptAs_ (c := tb.all.length) (HSX.out.keep hv1).b hcb (HRB.out.keep hv1) (fun j b hj => by simp [List.getD, hj])
          have HKB := Lib.hid hkb
          have HSY := Lib.hid (HSX.out.keep hv1)
          have HIY := Lib.hid (HIX.out.keep hv1)
          clear hkb hv1
          go_wp2_with fail
          refine HKB.out.mono ?_
          rintro e v2 ⟨rfl, hv2⟩
          have hmo := modified_no (HIY.out.keep hv2)
          have HMO := Lib.hid hmo
          have HSZ := Lib.hid (HSY.out.keep hv2)
          clear hmo hv2
          go_wp2_with fail
          refine HMO.out.mono ?_
          rintro e v3 ⟨rfl, rfl⟩
          go_wp2_with fail
          go_ret
          exact ⟨rfl, HSZ.out.below⟩
end Go.Proofs.Ytnjdffnbkjjmeaa
