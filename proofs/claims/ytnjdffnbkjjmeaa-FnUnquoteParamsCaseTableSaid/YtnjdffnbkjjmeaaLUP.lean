/- The walk of FnUnquoteParamsCaseTable. -/
import Derived.Test.YtnjdffnbkjjmeaaUQ
import Derived.Deep.Cut
namespace Go.Proofs.Ytnjdffnbkjjmeaa
open Go.RowKit
theorem RowF.grown {W W1 : World} {base g n : Nat} {e : TypeId} {f : Nat → Value} {row : Option Nat} (h : RowF W base g e n f) (hb : W.grownBy W1 row) (hne : some g ≠ row) : RowF W1 base g e n f := by
  obtain ⟨xs, ho, he⟩ := h
  exact ⟨xs, ho.kept hb (.inr (by simpa [Value.ownBlock] using hne)), he⟩
theorem PEp.grown {W W1 : World} {pe lt : Nat} {s : ByteArray} {row : Option Nat} (h : PEp W pe lt s) (hb : W.grownBy W1 row) (h1 : some pe ≠ row) (h2 : some lt ≠ row) : PEp W1 pe lt s := ⟨hb.cell h.1 h1, hb.cell h.2 h2⟩
theorem up_any (n m ok ik : Nat) (hok : ok ≤ 2) (hik : ik ≤ 2) (hn : n ≤ 65536) (hm : m ≤ 65536) (s : ByteArray) (w : World) :
    Calls Try.prog 56 #[.int .i64 (n : Int), .int .i64 (ok : Int), .int .i64 (m : Int), .int .i64 (ik : Int), .string s] w (UPB w n m ok ik s) := by
  rcases (by omega : ok = 0 ∨ ok = 1 ∨ ok = 2) with rfl | rfl | rfl <;> rcases (by omega : ik = 0 ∨ ik = 1 ∨ ik = 2) with rfl | rfl | rfl
  · exact up_00 n m hn hm s w
  · exact up_01 n m hn hm s w
  · exact up_02 n m hn hm s w
  · exact up_10 n m hn hm s w
  · exact up_11 n m hn hm s w
  · exact up_12 n m hn hm s w
  · exact up_20 n m hn hm s w
  · exact up_21 n m hn hm s w
  · exact up_22 n m hn hm s w
/-- Not the word that is unquoted. -/
def Other (n ok m ik : Nat) : Prop := n ≠ 1 ∨ (n = 1 ∧ ok ≠ 0) ∨ (n = 1 ∧ ok = 0 ∧ m ≠ 1) ∨ (n = 1 ∧ ok = 0 ∧ m = 1 ∧ ik ≠ 0)
theorem upb_no {W : World} {wd dq pe gI gO n m ok ik b : Nat} {fI fO : Nat → Value} {v0 v1 : Value} (kW : Bk W wd 129 #[.slice (some ⟨gO, 0, none⟩) n n]) (kD : Bk W dq 131 (dqC gI m)) (rI : RowF W b gI 135 m fI) (rO : RowF W b gO 135 n fO)
    (qI : 0 < m → fI 0 = v0) (qO : 0 < n → fO 0 = v1) (hO : OutK ok v1 dq) (hI : InnK ik v0 pe) (hx : Other n ok m ik) (hn : n ≤ 65536) (hm : m ≤ 65536) (sb : Nat) :
    Calls Try.prog 82 #[.pointer (some ⟨sb, 0, none⟩), .iface 44 (.pointer (some ⟨wd, 0, none⟩))] W (RetX (.iface 44 (.pointer (some ⟨wd, 0, none⟩))) W) := by
  have cW : W.cell? ⟨wd, 0, none⟩ = some (.slice (some ⟨gO, 0, none⟩) n n) := by rw [kW.cells]; rfl
  have cD : W.cell? ⟨dq, 5, none⟩ = some (.slice (some ⟨gI, 0, none⟩) m m) := by rw [kD.cells]; rfl
  rcases hx with h | ⟨rfl, h⟩ | ⟨rfl, rfl, h⟩ | ⟨rfl, rfl, rfl, h⟩
  · exact unq_no1 sb wd n n _ W cW h hn
  · have c0 := rO.cell (j := 0) (by omega)
    rw [qO (by omega)] at c0
    unfold OutK at hO
    rw [if_neg h] at hO
    split at hO
    · obtain ⟨a, rfl⟩ := hO
      exact unq_no2 sb wd 1 _ _ W cW c0 (fun w => uq_dl _ w)
    · obtain ⟨a, rfl⟩ := hO
      exact unq_no2 sb wd 1 _ _ W cW c0 (fun w => uq_dp _ w)
  · have c0 := rO.cell (j := 0) (by omega)
    rw [qO (by omega)] at c0
    unfold OutK at hO
    rw [if_pos rfl] at hO
    subst hO
    exact unq_no3 sb wd 1 dq m m _ _ W cW c0 cD h hm
  · have c0 := rO.cell (j := 0) (by omega)
    rw [qO (by omega)] at c0
    have c1 := rI.cell (j := 0) (by omega)
    rw [qI (by omega)] at c1
    unfold OutK at hO
    rw [if_pos rfl] at hO
    subst hO
    unfold InnK at hI
    rw [if_neg h] at hI
    split at hI
    · obtain ⟨a, rfl⟩ := hI
      exact unq_no4 sb wd 1 dq 1 _ _ _ W cW c0 cD c1 (fun w => uq_pl _ w)
    · obtain ⟨a, rfl⟩ := hI
      exact unq_no4 sb wd 1 dq 1 _ _ _ W cW c0 cD c1 (fun w => uq_pc _ w)
theorem testWord153 (a : Option Addr) (w : World) :
    Calls Try.prog 59 #[.iface 44 (.pointer a)] w fun e w' => e = .returned (.pointer a) ∧ w = w' := by
  have h := uq_tw
  go_enter Try.func59, Try.ntmps59
  go_wp2
  go_ret
  exact ⟨rfl, rfl⟩
theorem up_neW (a : Addr) (w : World) : (binOp .neq 44 (.pointer (some a)) (.pointer (some a))).run Try.prog w = .ok (.bool false) w := by
  obtain ⟨j, hj⟩ : ∃ j, Try.prog.info? 129 = some j := Option.isSome_iff_exists.1 (by kernel_rfl)
  exact Lib.run_neq_ptr_same w a Try.underlying44 hj
theorem zzBytesUP_any (a b c d : Int) (s : ByteArray) (w : World) (hs : s.size ≤ 9223372036854775807) :
    Calls Try.prog 55 #[.int .i64 a, .int .i64 b, .int .i64 c, .int .i64 d, .string s] w fun e w' => ∃ b : Bool, e = .returned (.bool b) ∧ w = w' := by
  go_enter Try.func55, Try.ntmps55
  go_wp2
  all_goals (go_ret; exact ⟨_, rfl, rfl⟩)
set_option maxHeartbeats 4000000 in
set_option maxRecDepth 100000 in
theorem law_up_no (n m ok ik : Nat) (hok : ok ≤ 2) (hik : ik ≤ 2) (hn : n ≤ 65536) (hm : m ≤ 65536) (s : ByteArray) (hs : s.size ≤ 1048576) (hx : Other n ok m ik) (w : World) :
    Calls Try.prog 10 #[.int .i64 (n : Int), .int .i64 (ok : Int), .int .i64 (m : Int), .int .i64 (ik : Int), .string s] w fun e w' => e = .returned (.bool true) ∧ Below w.heap.size w w' := by
  have hnw := up_neW
  have HX := Lib.hid hx
  clear hx
  go_enter Try.func10, Try.ntmps10
  go_wp2_with fail
  refine (zzBytesUP_any _ _ _ _ _ _ (by omega)).mono ?_
  rintro e w' ⟨b, rfl, rfl⟩
  cases b
  · go_wp2
    go_ret
    exact ⟨rfl, Below.refl _ _⟩
  go_wp2_with fail
  refine (up_any n m ok ik hok hik hn hm s _).mono ?_
  rintro e w1 ⟨wd, pe, dq, lt, gI, gO, v0, v1, rfl, kW, kD, ⟨fI, rI, qI, pI⟩, ⟨fO, rO, qO, pO⟩, hP, hO, hI, hne, hB⟩
  have QI := Lib.hid qI
  have QO := Lib.hid qO
  have PI := Lib.hid pI
  have PO := Lib.hid pO
  have HO := Lib.hid hO
  have HI := Lib.hid hI
  clear qI qO pI pO hO hI hne
  have cW := kW.cells
  have KW := Lib.hid kW
  have KD := Lib.hid kD
  have RI := Lib.hid rI
  have RO := Lib.hid rO
  have HP := Lib.hid hP
  clear kW kD rI rO hP
  go_wp2_with fail
  refine (copyParts_any gO n n _ fO _ RO.out PO.out (by omega)).mono ?_
  rintro e w2 ⟨rfl, cO, hb⟩
  have hB := bmore hB hb
  have KW := Lib.hid (KW.out.keep hb)
  have KD := Lib.hid (KD.out.keep hb)
  have RI := Lib.hid (RI.out.keep hb)
  have RO := Lib.hid (RO.out.keep hb)
  have HP := Lib.hid (HP.out.keep hb)
  have CO := Lib.hid cO
  clear hb cO cW
  have cD := KD.out.cells
  go_wp2_with fail
  refine (copyParts_any gI m m _ fI _ RI.out PI.out (by omega)).mono ?_
  rintro e w3 ⟨rfl, cI, hb⟩
  have hB := bmore hB hb
  have KW := Lib.hid (KW.out.keep hb)
  have KD := Lib.hid (KD.out.keep hb)
  have RI := Lib.hid (RI.out.keep hb)
  have RO := Lib.hid (RO.out.keep hb)
  have HP := Lib.hid (HP.out.keep hb)
  have CO := Lib.hid (CO.out.keep hb)
  have CI := Lib.hid cI
  clear hb cI cD
  go_wp2_with fail
  refine (ZZunq_no _ _ (fun W hA _ => upb_no (KW.out.keep hA) (KD.out.keep hA) (RI.out.keep hA) (RO.out.keep hA) QI.out QO.out HO.out HI.out HX.out hn hm _)).mono ?_
  rintro e w4 ⟨rfl, hb⟩
  have hB := bmore hB hb
  have KW := Lib.hid (KW.out.keep hb)
  have KD := Lib.hid (KD.out.keep hb)
  have RI := Lib.hid (RI.out.keep hb)
  have RO := Lib.hid (RO.out.keep hb)
  have HP := Lib.hid (HP.out.keep hb)
  have CO := Lib.hid (CO.out.keep hb)
  have CI := Lib.hid (CI.out.keep hb)
  clear hb
  have cD := KD.out.cells
  have hx' : (((n : Int) == 1) = false) ∨ (((n : Int) == 1) = true ∧ ((ok : Int) == 0) = false) ∨ (((n : Int) == 1) = true ∧ ((ok : Int) == 0) = true ∧ ((m : Int) == 1) = false) ∨ (((n : Int) == 1) = true ∧ ((ok : Int) == 0) = true ∧ ((m : Int) == 1) = true ∧ ((ik : Int) == 0) = false) := by
    have h := HX.out
    unfold Other at h
    simp
    omega
  have HXX := Lib.hid hx'
  clear hx'
  rcases HXX.out with e1 | ⟨e1, e2⟩ | ⟨e1, e2, e3⟩ | ⟨e1, e2, e3, e4⟩
  all_goals
    clear HXX
    go_wp2_with (go_at_call 59; refine (testWord153 _ _).mono ?_; rintro e w' ⟨rfl, rfl⟩)
    refine (sameParts_any gI _ m m m _ _ fI _ RI.out CI.out PI.out (by omega)).mono ?_
    rintro e w5 ⟨rfl, hb⟩
    have hB := bmore hB hb
    have kW := KW.out.keep hb
    have RO := Lib.hid (RO.out.keep hb)
    have hP := HP.out.keep hb
    have CO := Lib.hid (CO.out.keep hb)
    clear hb cD
    have cW := kW.cells
    obtain ⟨p1, p2⟩ := hP
    clear kW
    go_wp2_with fail
    refine (sameParts_any gO _ n n n _ _ fO _ RO.out CO.out PO.out (by omega)).mono ?_
    rintro e w6 ⟨rfl, hb⟩
    have hB := bmore hB hb
    clear hb cW p1 p2
    go_wp2
    go_ret
    exact ⟨rfl, hB⟩
set_option maxHeartbeats 4000000 in
set_option maxRecDepth 100000 in
theorem law_up_yes (s : ByteArray) (hs : s.size ≤ 1048576) (w : World) :
    Calls Try.prog 10 #[.int .i64 1, .int .i64 0, .int .i64 1, .int .i64 0, .string s] w fun e w' => e = .returned (.bool true) ∧ Below w.heap.size w w' := by
  have hnw := up_neW
  go_enter Try.func10, Try.ntmps10
  go_wp2_with fail
  refine (zzBytesUP_any _ _ _ _ _ _ (by omega)).mono ?_
  rintro e w' ⟨b, rfl, rfl⟩
  cases b
  · go_wp2
    go_ret
    exact ⟨rfl, Below.refl _ _⟩
  go_wp2_with fail
  refine (up_00 1 1 (by omega) (by omega) s _).mono ?_
  rintro e w1 ⟨wd, pe, dq, lt, gI, gO, v0, v1, rfl, kW, kD, ⟨fI, rI, qI, pI⟩, ⟨fO, rO, qO, pO⟩, hP, hO, hI, hne, hB⟩
  have wdB : w.heap.size ≤ wd := by omega
  unfold OutK at hO
  rw [if_pos rfl] at hO
  unfold InnK at hI
  rw [if_pos rfl] at hI
  have eI := qI (by omega)
  have eO := qO (by omega)
  rw [hI] at eI
  rw [hO] at eO
  have EI := Lib.hid eI
  have EO := Lib.hid eO
  have PI := Lib.hid pI
  have PO := Lib.hid pO
  have NE := Lib.hid hne
  clear qI qO pI pO hO hI hne eI eO
  have cW := kW.cells
  have KW := Lib.hid kW
  have KD := Lib.hid kD
  have RI := Lib.hid rI
  have RO := Lib.hid rO
  have HP := Lib.hid hP
  clear kW kD rI rO hP
  go_wp2_with fail
  refine (copyParts_any gO 1 1 _ fO _ RO.out PO.out (by omega)).mono ?_
  rintro e w2 ⟨rfl, cO, hb⟩
  have hB := bmore hB hb
  have KW := Lib.hid (KW.out.keep hb)
  have KD := Lib.hid (KD.out.keep hb)
  have RI := Lib.hid (RI.out.keep hb)
  have RO := Lib.hid (RO.out.keep hb)
  have HP := Lib.hid (HP.out.keep hb)
  have lwd := KW.out.lt
  clear hb cO cW
  have cD := KD.out.cells
  go_wp2_with fail
  refine (copyParts_any gI 1 1 _ fI _ RI.out PI.out (by omega)).mono ?_
  rintro e w3 ⟨rfl, cI, hb⟩
  have hB := bmore hB hb
  have KW := Lib.hid (KW.out.keep hb)
  have KD := Lib.hid (KD.out.keep hb)
  have RI := Lib.hid (RI.out.keep hb)
  have RO := Lib.hid (RO.out.keep hb)
  have HP := Lib.hid (HP.out.keep hb)
  have CI := Lib.hid cI
  clear hb cI cD
  go_wp2_with fail
  refine (ZZunq_yes wd 1 dq 1 ⟨gO, 0, none⟩ ⟨gI, 0, none⟩ _ _ KW.out (by rw [RO.out.cell (j := 0) (by omega), EO.out]) (by rw [KD.out.cells]; rfl) (by rw [RI.out.cell (j := 0) (by omega), EI.out]) (fun h => NE.out.2.2.1 h.symm)).mono ?_
  rintro e w4 ⟨rfl, kW, hg⟩
  have ne := NE.out
  have hB := below_grown hB hg wdB
  have KD := Lib.hid (KD.out.grown hg (by simp; omega))
  have RI := Lib.hid (RI.out.grown hg (by simp; omega))
  have CI := Lib.hid (CI.out.grown hg (by simp; omega))
  have HP := Lib.hid (HP.out.grown hg (by simp; omega) (by simp; omega))
  have KW := Lib.hid kW
  clear hg kW ne
  have cD := KD.out.cells
  go_wp2_with (go_at_call 59; refine (testWord153 _ _).mono ?_; rintro e w' ⟨rfl, rfl⟩)
  refine (sameParts_any gI _ 1 1 1 _ _ fI _ RI.out CI.out PI.out (by omega)).mono ?_
  rintro e w5 ⟨rfl, hb⟩
  have hB := bmore hB hb
  have kW := KW.out.keep hb
  have RI := Lib.hid (RI.out.keep hb)
  have hP := HP.out.keep hb
  clear hb cD
  have cW := kW.cells
  obtain ⟨p1, p2⟩ := hP
  have c0 := RI.out.cell (j := 0) (by omega)
  rw [EI.out] at c0
  clear kW
  go_wp2_with fail
  refine (psame (v := .iface 122 (.pointer (some ⟨pe, 0, none⟩))) (by unfold PartV; simp) _).mono ?_
  rintro e w' ⟨rfl, rfl⟩
  go_wp2
  go_ret
  exact ⟨rfl, hB⟩
theorem walkFnUnquoteParamsCaseTable (a0 a1 a2 a3 : Int) (a4 : ByteArray) (w0 : (Lit.int .i64 a0).wf = true) (w1 : (Lit.int .i64 a1).wf = true) (w2 : (Lit.int .i64 a2).wf = true) (w3 : (Lit.int .i64 a3).wf = true) (w4 : a4.size ≤ maxLen) (w : World) :
    Calls Try.prog 10 #[.int .i64 a0, .int .i64 a1, .int .i64 a2, .int .i64 a3, .string a4] w fun e w' => e = .returned (.bool true) ∧ Below w.heap.size w w' := by
  have b0 := bounds_i64 w0
  have b1 := bounds_i64 w1
  have b2 := bounds_i64 w2
  have b3 := bounds_i64 w3
  unfold maxLen at w4
  clear w0 w1 w2 w3
  by_cases h : a4.size ≤ 1048576 ∧ 0 ≤ a0 ∧ a0 ≤ 65536 ∧ 0 ≤ a2 ∧ a2 ≤ 65536 ∧ 0 ≤ a1 ∧ a1 ≤ 2 ∧ 0 ≤ a3 ∧ a3 ≤ 2
  case neg =>
    have H := Lib.hid h
    clear h
    go_enter Try.func10, Try.ntmps10
    go_wp2_with fail
    refine (zzBytesUP_any _ _ _ _ _ _ w4).mono ?_
    rintro e w' ⟨b, rfl, rfl⟩
    cases b
    · go_wp2
      go_ret
      exact ⟨rfl, Below.refl _ _⟩
    go_wp2_with fail
    all_goals (first | (go_ret; exact ⟨rfl, Below.refl _ _⟩) | (exfalso; exact H.out ⟨by omega, by omega, by omega, by omega, by omega, by omega, by omega, by omega, by omega⟩))
  obtain ⟨hs, h1, h2, h3, h4, h5, h6, h7, h8⟩ := h
  obtain ⟨n, rfl⟩ : ∃ n : Nat, a0 = (n : Int) := ⟨a0.toNat, by omega⟩
  obtain ⟨ok, rfl⟩ : ∃ n : Nat, a1 = (n : Int) := ⟨a1.toNat, by omega⟩
  obtain ⟨m, rfl⟩ : ∃ n : Nat, a2 = (n : Int) := ⟨a2.toNat, by omega⟩
  obtain ⟨ik, rfl⟩ : ∃ n : Nat, a3 = (n : Int) := ⟨a3.toNat, by omega⟩
  by_cases hx : n = 1 ∧ ok = 0 ∧ m = 1 ∧ ik = 0
  · obtain ⟨rfl, rfl, rfl, rfl⟩ := hx
    exact law_up_yes a4 hs w
  · exact law_up_no n m ok ik (by omega) (by omega) (by omega) (by omega) a4 hs (by unfold Other; omega) w
end Go.Proofs.Ytnjdffnbkjjmeaa
