/- FnInlineSimpleParamsCaseTable: the word that is inlined; the whole walk. -/
import Derived.Test.YtnjdffnbkjjmeaaLIS
import Derived.LaidEqlPtr
namespace Go.Proofs.Ytnjdffnbkjjmeaa
open Go.RowKit Go.PlainAid
theorem is_otherW {a b : Nat} {ca cb : Array Value} {w : World} (hne : a ≠ b) (ha : Bk w a 129 ca) (hb : Bk w b 129 cb) : (binOp .eql 44 (.pointer (some ⟨a, 0, none⟩)) (.pointer (some ⟨b, 0, none⟩))).run Try.prog w = .ok (.bool false) w := by
  have h : (Try.prog.info? 129).map (·.size) = some 1 := by kernel_rfl
  cases hh : Try.prog.info? 129 with
  | none => rw [hh] at h; cases h
  | some j =>
    rw [hh] at h
    have hj : j.size = 1 := by simpa using h
    exact run_eql_ptr_other w Try.underlying44 hh (by omega) (fun e => hne (by injection e)) ha hb
set_option maxHeartbeats 4000000 in
set_option maxRecDepth 100000 in
theorem law_is_yes (n fk k : Nat) (hf : fk ≤ 2) (hk : k ≤ 16) (hn : n ≤ 65536) (s : ByteArray) (hs : s.size ≤ 1048576) (hx : n = 1 ∧ fk = 0 ∧ k = 0 ∧ vnB s.data.toList = true) (w : World) :
    Calls Try.prog 12 #[.string s, .int .i64 (n : Int), .int .i64 (fk : Int), .int .i64 (k : Int)] w fun e w' => e = .returned (.bool true) ∧ Below w.heap.size w w' := by
  have hew := is_eqW
  have hnl := is_neL
  have HX := Lib.hid hx
  have hmk := makeWP n (by omega)
  clear hx
  go_enter Try.func12, Try.ntmps12
  go_wp2_with fail
  refine (zzBytesIS_any _ _ _ _ _ (by omega)).mono ?_
  rintro e w' ⟨b, rfl, rfl⟩
  cases b
  · go_wp2
    go_ret
    exact ⟨rfl, Below.refl _ _⟩
  go_wp2_with fail
  refine (sw_any n fk k hf hn hk s _).mono ?_
  rintro e w1 ⟨wd, pe, lt, gO, cs, v0, rfl, kW, hP, ⟨fO, rO, qO, pO⟩, hF, h13, hS, hB⟩
  have QO := Lib.hid qO
  have PO := Lib.hid pO
  have HF := Lib.hid hF
  have H13 := Lib.hid h13
  have HS := Lib.hid hS
  have cW := kW.cells
  have HK : Hid (KeepS w wd pe lt gO n cs s fO w1) := Lib.hid ⟨kW, hP, rO, hB⟩
  have lK := HK.out.lt
  clear qO pO hF h13 hS kW hP rO hB
  go_wp2
  refine wp_gen (S := fun W => RowF W w1.heap.size w1.heap.size 135 n (fun _ => .nilIface) ∧ KeepS w wd pe lt gO n cs s fO W) ⟨RowF.fresh _ _ _ (Nat.le_refl _) (by unfold maxLen; omega), HK.out.keep (by go_grown)⟩ ?_
  rintro W ⟨hR, hK⟩
  clear hmk HK cW
  go_loopw [13] (fun i wr => RelS1 w wd pe lt gO w1.heap.size n cs s fO i wr) (fun i _ => n - (intOf i).toNat)
  case atStart => exact ⟨0, by omega, by go_num, hR.congr (fun j _ => by simp), hK⟩
  case round =>
    clear hR hK
    obtain ⟨j, hj, rfl, hR, hK⟩ := hrel
    have cW := hK.1.cells
    by_cases hlt : j < n
    · obtain ⟨t, a, _, hfj⟩ := PO.out j hlt
      have hc : wr.cell? ⟨gO, j, none⟩ = some (.iface t (.pointer (some a))) := by rw [← hfj]; exact hK.2.2.1.cell hlt
      have HFJ := Lib.hid hfj
      have hd := hR.cell hlt
      have hfz := hR.frz j
      have hg := hR.lt.2
      rw [if_neg (by omega)] at hd
      have hlt' : (j : Int) < (n : Int) := by omega
      have i0 : (0 : Int) ≤ (j : Int) := by omega
      have HR := Lib.hid hR
      have HK := Lib.hid hK
      clear hR hK hfj
      go_wp2
      go_roundw
      case rel =>
        have lg := HR.out.lt
        refine ⟨j + 1, by omega, by go_num, (HR.out.put _).congr (fun i hi => ?_), HK.out.far (by simp; omega) (by simp; omega) (by simp; omega) (by simp; omega) (by simp; omega) _⟩
        by_cases h1 : i = j
        · subst h1; simp [HFJ.out]
        · by_cases h2 : i < j
          · rw [if_neg h1, if_pos h2, if_pos (by omega)]
          · rw [if_neg h1, if_neg h2, if_neg (by omega)]
      case measure => simp [intOf]; omega
    · obtain rfl : j = n := by omega
      have hge : ¬ ((j : Int) < (j : Int)) := by omega
      have HR := Lib.hid (hR.congr (f' := fO) (fun i hi => by simp [hi]))
      have HK := Lib.hid hK
      clear hR hK
      go_wp2_with fail
      have hc0 : wr.cell? ⟨wd, 0, none⟩ = some (.slice (some ⟨gO, 0, none⟩) 1 1) := by rw [HK.out.1.cells, HX.out.1]; rfl
      have hc1 : wr.cell? ⟨gO, 0, none⟩ = some (.iface 122 (.pointer (some ⟨pe, 0, none⟩))) := by
        have h0 := HK.out.2.2.1.cell (j := 0) (by have := HX.out.1; omega)
        rw [QO.out (by have := HX.out.1; omega)] at h0
        have hF := HF.out
        unfold FirstK at hF
        rw [if_pos HX.out.2.1] at hF
        rw [h0, hF]
      have hc13 : cs[13]? = some (.pointer (some ⟨lt, 0, none⟩)) := by rw [H13.out, if_neg (by have := HX.out.2.2.1; omega)]
      have hSS : SimpleIs cs true := by
        have h := HS.out (by have := HX.out.2.2.1; omega)
        rwa [show (k == 0) = true from beq_iff_eq.2 HX.out.2.2.1] at h
      refine (ZZisp_yes wd 1 pe lt cs _ s _ hc0 hc1 HK.out.2.1.1 hc13 HK.out.2.1.2 hs HX.out.2.2.2 hSS).mono ?_
      rintro e w4 ⟨nw, gn, rfl, kN, cN, hnw, hb⟩
      have lwd := HK.out.lt.1
      have hnd : nw ≠ wd := by omega
      have HR := Lib.hid (HR.out.keep hb)
      have HK := Lib.hid (HK.out.keep hb)
      have HQ : Hid (Bk w4 nw 129 #[.slice (some ⟨gn, 0, none⟩) 1 1] ∧ w4.cell? ⟨gn, 0, none⟩ = some (.iface 64 (.pointer (some ⟨lt, 0, none⟩)))) := Lib.hid ⟨kN, cN⟩
      clear hb cW hc0 hc1 hc13 hSS kN cN
      have e1 : ((j : Int) == 1) = true := beq_iff_eq.2 (by have := HX.out.1; omega)
      have e2 : ((fk : Int) == 0) = true := beq_iff_eq.2 (by have := HX.out.2.1; omega)
      have e3 : ((k : Int) == 0) = true := beq_iff_eq.2 (by have := HX.out.2.2.1; omega)
      have e4 : vnB s.data.toList = true := HX.out.2.2.2
      have cW := HK.out.1.cells
      go_wp2_with (go_at_call 71; refine (zzValid_any _ _ hs).mono ?_; rintro e w' ⟨rfl, rfl⟩)
      go_loopw [17] (fun i wr => RelS2 w wd pe lt gO w1.heap.size j cs s fO (fun W => Bk W nw 129 #[.slice (some ⟨gn, 0, none⟩) 1 1] ∧ W.cell? ⟨gn, 0, none⟩ = some (.iface 64 (.pointer (some ⟨lt, 0, none⟩)))) i wr) (fun i _ => j - (intOf i).toNat)
      case atStart => exact ⟨0, by omega, by go_num, HR.out, HK.out, HQ.out⟩
      case round =>
        clear HR HK cW HQ
        obtain ⟨m, hm, rfl, hR, hK, hQ⟩ := hrel
        have cW := hK.1.cells
        by_cases hlt : m < j
        · have hlt' : (m : Int) < (j : Int) := by omega
          have i0 : (0 : Int) ≤ (m : Int) := by omega
          have c1 := hR.cell hlt
          have c2 := hK.2.2.1.cell hlt
          have HR := Lib.hid hR
          have HK := Lib.hid hK
          have HQ := Lib.hid hQ
          clear hR hK hQ
          go_wp2
          go_quiet ((go_at_call 61; exact Calls.quiet_of_same (psame (PO.out m hlt) _)))
          go_wp2
          go_roundw
          case rel => exact ⟨m + 1, by omega, by go_num, HR.out.keep (bdrewN (Below.refl _ _) _), HK.out.keep (bdrewN (Below.refl _ _) _), HQ.out.1.keep (bdrewN (Below.refl _ _) _), keepc (bdrewN (Below.refl _ _) _) HQ.out.2⟩
          case measure => simp [intOf]; omega
        · obtain rfl : m = j := by omega
          have hge : ¬ ((m : Int) < (m : Int)) := by omega
          have c4 := hK.2.1.2
          have hB := hK.2.2.2
          have c13 : wr.cell? ⟨pe, 13, none⟩ = some (.pointer (some ⟨lt, 0, none⟩)) := by rw [hK.2.1.1.cells, H13.out, if_neg (by have := HX.out.2.2.1; omega)]
          have e16 : ((k : Int) == 16) = false := beq_eq_false_iff_ne.2 (by have := HX.out.2.2.1; omega)
          have hno : (binOp .eql 44 (.pointer (some ⟨nw, 0, none⟩)) (.pointer (some ⟨wd, 0, none⟩))).run Try.prog wr = .ok (.bool false) wr := is_otherW hnd hQ.1 hK.1
          have cQ := hQ.1.cells
          have cQ2 := hQ.2
          clear hR hK hQ hnd
          go_wp2_with (go_at_call 38; refine (is_arithmWord _ _).mono ?_; rintro e w' ⟨rfl, rfl⟩)
          refine (psame (PartV.lit _) _).mono ?_
          rintro e w' ⟨rfl, rfl⟩
          go_wp2
          go_ret
          exact ⟨rfl, hB⟩
set_option maxHeartbeats 1000000 in
set_option maxRecDepth 100000 in
theorem walkFnInlineSimpleParamsCaseTable (a0 : ByteArray) (a1 a2 a3 : Int) (w0 : a0.size ≤ maxLen) (w1 : (Lit.int .i64 a1).wf = true) (w2 : (Lit.int .i64 a2).wf = true) (w3 : (Lit.int .i64 a3).wf = true) (w : World) :
    Calls Try.prog 12 #[.string a0, .int .i64 a1, .int .i64 a2, .int .i64 a3] w fun e w' => e = .returned (.bool true) ∧ Below w.heap.size w w' := by
  have b1 := bounds_i64 w1
  have b2 := bounds_i64 w2
  have b3 := bounds_i64 w3
  unfold maxLen at w0
  clear w1 w2 w3
  by_cases h : a0.size ≤ 1048576 ∧ 0 ≤ a1 ∧ a1 ≤ 65536 ∧ 0 ≤ a2 ∧ a2 ≤ 2 ∧ 0 ≤ a3 ∧ a3 ≤ 16
  case neg =>
    have H := Lib.hid h
    clear h
    go_enter Try.func12, Try.ntmps12
    go_wp2_with fail
    refine (zzBytesIS_any _ _ _ _ _ w0).mono ?_
    rintro e w' ⟨b, rfl, rfl⟩
    cases b
    · go_wp2
      go_ret
      exact ⟨rfl, Below.refl _ _⟩
    go_wp2_with fail
    all_goals (first | (go_ret; exact ⟨rfl, Below.refl _ _⟩) | (exfalso; exact H.out ⟨by omega, by omega, by omega, by omega, by omega, by omega, by omega⟩))
  obtain ⟨hs, h1, h2, h3, h4, h5, h6⟩ := h
  obtain ⟨n, rfl⟩ : ∃ n : Nat, a1 = (n : Int) := ⟨a1.toNat, by omega⟩
  obtain ⟨fk, rfl⟩ : ∃ n : Nat, a2 = (n : Int) := ⟨a2.toNat, by omega⟩
  obtain ⟨k, rfl⟩ : ∃ n : Nat, a3 = (n : Int) := ⟨a3.toNat, by omega⟩
  cases hv : vnB a0.data.toList
  · exact law_is_no n fk k (by omega) (by omega) (by omega) a0 hs (by rw [hv]; unfold OtherS; simp; omega) w
  · by_cases hx : n = 1 ∧ fk = 0 ∧ k = 0
    · exact law_is_yes n fk k (by omega) (by omega) (by omega) a0 hs ⟨hx.1, hx.2.1, hx.2.2, hv⟩ w
    · exact law_is_no n fk k (by omega) (by omega) (by omega) a0 hs (by rw [hv]; unfold OtherS; simp; omega) w
end Go.Proofs.Ytnjdffnbkjjmeaa
