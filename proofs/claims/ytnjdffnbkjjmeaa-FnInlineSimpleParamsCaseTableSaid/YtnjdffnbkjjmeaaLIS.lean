/- The walk of FnInlineSimpleParamsCaseTable. -/
import Derived.Test.YtnjdffnbkjjmeaaISB
import Derived.Deep.Cut
namespace Go.Proofs.Ytnjdffnbkjjmeaa
open Go.RowKit Go.PlainAid
/-- Not the word that is inlined. -/
def OtherS (n fk k : Nat) (b : Bool) : Prop := n ≠ 1 ∨ (n = 1 ∧ fk ≠ 0) ∨ (n = 1 ∧ fk = 0 ∧ k ≠ 0) ∨ (n = 1 ∧ fk = 0 ∧ k = 0 ∧ b = false)
theorem swb_no {W : World} {wd pe lt gO n fk k b : Nat} {cs : Array Value} {fO : Nat → Value} {v0 : Value} {s : ByteArray} (kW : Bk W wd 129 #[.slice (some ⟨gO, 0, none⟩) n n]) (hP : PEl W pe lt cs s) (rO : RowF W b gO 135 n fO)
    (qO : 0 < n → fO 0 = v0) (hF : FirstK fk v0 pe) (h13 : cs[13]? = some (if k = 16 then .pointer none else .pointer (some ⟨lt, 0, none⟩))) (hS : k ≠ 16 → SimpleIs cs (k == 0)) (hx : OtherS n fk k (vnB s.data.toList)) (hs : s.size ≤ 1048576) (sb : Nat) :
    Calls Try.prog 86 #[.pointer (some ⟨sb, 0, none⟩), .iface 44 (.pointer (some ⟨wd, 0, none⟩))] W (RetX (.iface 44 (.pointer (some ⟨wd, 0, none⟩))) W) := by
  have cW : W.cell? ⟨wd, 0, none⟩ = some (.slice (some ⟨gO, 0, none⟩) n n) := by rw [kW.cells]; rfl
  rcases hx with h | ⟨rfl, h⟩ | ⟨rfl, rfl, h⟩ | ⟨rfl, rfl, rfl, h⟩
  · exact isp_no1 sb wd n n _ W cW h
  · have c0 := rO.cell (j := 0) (by omega)
    rw [qO (by omega)] at c0
    unfold FirstK at hF
    rw [if_neg h] at hF
    split at hF
    · obtain ⟨a, rfl⟩ := hF
      exact isp_no2 sb wd 1 _ _ W cW c0 (fun w => uq_pl _ w)
    · obtain ⟨a, rfl⟩ := hF
      exact isp_no2 sb wd 1 _ _ W cW c0 (fun w => is_pd _ w)
  · have c0 := rO.cell (j := 0) (by omega)
    rw [qO (by omega)] at c0
    unfold FirstK at hF
    rw [if_pos rfl] at hF
    subst hF
    by_cases h16 : k = 16
    · rw [if_pos h16] at h13
      exact isp_no3 sb wd 1 pe _ W cW c0 (by rw [hP.1.cells, h13])
    · rw [if_neg h16] at h13
      have hS' := hS h16
      rw [beq_eq_false_iff_ne.2 h] at hS'
      cases hb : vnB s.data.toList
      · exact isp_no4 sb wd 1 pe lt _ s W cW c0 (by rw [hP.1.cells, h13]) hP.2 hs hb
      · exact isp_no5 sb wd 1 pe lt cs _ s W cW c0 hP.1 h13 hP.2 hs hb hS'
  · have c0 := rO.cell (j := 0) (by omega)
    rw [qO (by omega)] at c0
    unfold FirstK at hF
    rw [if_pos rfl] at hF
    subst hF
    rw [if_neg (by omega)] at h13
    exact isp_no4 sb wd 1 pe lt _ s W cW c0 (by rw [hP.1.cells, h13]) hP.2 hs h
theorem is_arithmWord (a : Option Addr) (w : World) :
    Calls Try.prog 38 #[.iface 44 (.pointer a)] w fun e w' => e = .returned (.pointer a) ∧ w = w' := by
  have h := is_tw
  go_enter Try.func38, Try.ntmps38
  go_wp2
  go_ret
  exact ⟨rfl, rfl⟩
theorem is_eqW (a : Addr) (w : World) : (binOp .eql 44 (.pointer (some a)) (.pointer (some a))).run Try.prog w = .ok (.bool true) w := by
  obtain ⟨j, hj⟩ : ∃ j, Try.prog.info? 129 = some j := Option.isSome_iff_exists.1 (by kernel_rfl)
  exact run_eql_ptr_same w a Try.underlying44 hj
theorem is_neL (a : Addr) (w : World) : (binOp .neq 64 (.pointer (some a)) (.pointer (some a))).run Try.prog w = .ok (.bool false) w := by
  obtain ⟨j, hj⟩ : ∃ j, Try.prog.info? 66 = some j := Option.isSome_iff_exists.1 (by kernel_rfl)
  exact Lib.run_neq_ptr_same w a Try.underlying64 hj
theorem zzBytesIS_any (a b c : Int) (s : ByteArray) (w : World) (hs : s.size ≤ 9223372036854775807) :
    Calls Try.prog 68 #[.string s, .int .i64 a, .int .i64 b, .int .i64 c] w fun e w' => ∃ b : Bool, e = .returned (.bool b) ∧ w = w' := by
  go_enter Try.func68, Try.ntmps68
  go_wp2
  all_goals (go_ret; exact ⟨_, rfl, rfl⟩)
/-- What the two loops keep: the word, the expansion and its name, the row of parts. -/
def KeepS (w : World) (wd pe lt gO n : Nat) (cs : Array Value) (s : ByteArray) (fO : Nat → Value) (W : World) : Prop :=
  Bk W wd 129 #[.slice (some ⟨gO, 0, none⟩) n n] ∧ PEl W pe lt cs s ∧ RowF W w.heap.size gO 135 n fO ∧ Below w.heap.size w W
theorem KeepS.keep {w : World} {wd pe lt gO n : Nat} {cs : Array Value} {s : ByteArray} {fO : Nat → Value} {W W1 : World} (h : KeepS w wd pe lt gO n cs s fO W) (hb : Below W.heap.size W W1) : KeepS w wd pe lt gO n cs s fO W1 :=
  ⟨h.1.keep hb, h.2.1.keep hb, h.2.2.1.keep hb, bmore h.2.2.2 hb⟩
theorem KeepS.far {w : World} {wd pe lt gO n : Nat} {cs : Array Value} {s : ByteArray} {fO : Nat → Value} {W : World} (h : KeepS w wd pe lt gO n cs s fO W) {p : Addr} (h1 : wd ≠ p.block) (h2 : pe ≠ p.block) (h3 : lt ≠ p.block) (h4 : gO ≠ p.block) (h5 : w.heap.size ≤ p.block) (u : Value) : KeepS w wd pe lt gO n cs s fO (W.setCell p u) :=
  ⟨h.1.far h1 u, h.2.1.far h2 h3 u, h.2.2.1.far h4 u, h.2.2.2.setCell h5 u⟩
theorem KeepS.lt {w : World} {wd pe lt gO n : Nat} {cs : Array Value} {s : ByteArray} {fO : Nat → Value} {W : World} (h : KeepS w wd pe lt gO n cs s fO W) : wd < W.heap.size ∧ pe < W.heap.size ∧ lt < W.heap.size ∧ gO < W.heap.size ∧ w.heap.size ≤ W.heap.size := ⟨h.1.lt, h.2.1.lt.1, h.2.1.lt.2, h.2.2.1.lt.2, h.2.2.2.size⟩
def RelS1 (w : World) (wd pe lt gO g n : Nat) (cs : Array Value) (s : ByteArray) (fO : Nat → Value) (i : Value) (wr : World) : Prop :=
  ∃ k : Nat, k ≤ n ∧ i = .int .i64 k ∧ RowF wr g g 135 n (fun j => if j < k then fO j else .nilIface) ∧ KeepS w wd pe lt gO n cs s fO wr
def RelS2 (w : World) (wd pe lt gO g n : Nat) (cs : Array Value) (s : ByteArray) (fO : Nat → Value) (Q : World → Prop) (i : Value) (wr : World) : Prop :=
  ∃ k : Nat, k ≤ n ∧ i = .int .i64 k ∧ RowF wr g g 135 n fO ∧ KeepS w wd pe lt gO n cs s fO wr ∧ Q wr
set_option maxHeartbeats 4000000 in
set_option maxRecDepth 100000 in
theorem law_is_no (n fk k : Nat) (hf : fk ≤ 2) (hk : k ≤ 16) (hn : n ≤ 65536) (s : ByteArray) (hs : s.size ≤ 1048576) (hx : OtherS n fk k (vnB s.data.toList)) (w : World) :
    Calls Try.prog 12 #[.string s, .int .i64 (n : Int), .int .i64 (fk : Int), .int .i64 (k : Int)] w fun e w' => e = .returned (.bool true) ∧ Below w.heap.size w w' := by
  have hew := is_eqW
  have hnl := is_neL
  have HX := Lib.hid hx
  have hmk := makeWP n (by omega)
  clear hx
  go_enter Try.func12, Try.ntmps12
  go_wp2_with fail
  refine (zzBytesIS_any _ _ _ _ _ (by omega)).mono ?_
  rintro e w' ⟨b, rfl, rfl⟩
  cases b
  · go_wp2
    go_ret
    exact ⟨rfl, Below.refl _ _⟩
  go_wp2_with fail
  refine (sw_any n fk k hf hn hk s _).mono ?_
  rintro e w1 ⟨wd, pe, lt, gO, cs, v0, rfl, kW, hP, ⟨fO, rO, qO, pO⟩, hF, h13, hS, hB⟩
  have QO := Lib.hid qO
  have PO := Lib.hid pO
  have HF := Lib.hid hF
  have H13 := Lib.hid h13
  have HS := Lib.hid hS
  have cW := kW.cells
  have HK : Hid (KeepS w wd pe lt gO n cs s fO w1) := Lib.hid ⟨kW, hP, rO, hB⟩
  have lK := HK.out.lt
  clear qO pO hF h13 hS kW hP rO hB
  go_wp2
  refine wp_gen (S := fun W => RowF W w1.heap.size w1.heap.size 135 n (fun _ => .nilIface) ∧ KeepS w wd pe lt gO n cs s fO W) ⟨RowF.fresh _ _ _ (Nat.le_refl _) (by unfold maxLen; omega), HK.out.keep (by go_grown)⟩ ?_
  rintro W ⟨hR, hK⟩
  clear hmk HK cW
  go_loopw [13] (fun i wr => RelS1 w wd pe lt gO w1.heap.size n cs s fO i wr) (fun i _ => n - (intOf i).toNat)
  case atStart => exact ⟨0, by omega, by go_num, hR.congr (fun j _ => by simp), hK⟩
  case round =>
    clear hR hK
    obtain ⟨j, hj, rfl, hR, hK⟩ := hrel
    have cW := hK.1.cells
    by_cases hlt : j < n
    · obtain ⟨t, a, _, hfj⟩ := PO.out j hlt
      have hc : wr.cell? ⟨gO, j, none⟩ = some (.iface t (.pointer (some a))) := by rw [← hfj]; exact hK.2.2.1.cell hlt
      have HFJ := Lib.hid hfj
      have hd := hR.cell hlt
      have hfz := hR.frz j
      have hg := hR.lt.2
      rw [if_neg (by omega)] at hd
      have hlt' : (j : Int) < (n : Int) := by omega
      have i0 : (0 : Int) ≤ (j : Int) := by omega
      have HR := Lib.hid hR
      have HK := Lib.hid hK
      clear hR hK hfj
      go_wp2
      go_roundw
      case rel =>
        have lg := HR.out.lt
        refine ⟨j + 1, by omega, by go_num, (HR.out.put _).congr (fun i hi => ?_), HK.out.far (by simp; omega) (by simp; omega) (by simp; omega) (by simp; omega) (by simp; omega) _⟩
        by_cases h1 : i = j
        · subst h1; simp [HFJ.out]
        · by_cases h2 : i < j
          · rw [if_neg h1, if_pos h2, if_pos (by omega)]
          · rw [if_neg h1, if_neg h2, if_neg (by omega)]
      case measure => simp [intOf]; omega
    · obtain rfl : j = n := by omega
      have hge : ¬ ((j : Int) < (j : Int)) := by omega
      have HR := Lib.hid (hR.congr (f' := fO) (fun i hi => by simp [hi]))
      have HK := Lib.hid hK
      clear hR hK
      go_wp2_with fail
      refine (ZZisp_no _ _ (fun W hA _ => swb_no (HK.out.1.keep hA) (HK.out.2.1.keep hA) (HK.out.2.2.1.keep hA) QO.out HF.out H13.out HS.out HX.out hs _)).mono ?_
      rintro e w4 ⟨rfl, hb⟩
      have HR := Lib.hid (HR.out.keep hb)
      have HK := Lib.hid (HK.out.keep hb)
      clear hb cW
      have hx' : (((j : Int) == 1) = false) ∨ (((j : Int) == 1) = true ∧ ((fk : Int) == 0) = false) ∨ (((j : Int) == 1) = true ∧ ((fk : Int) == 0) = true ∧ ((k : Int) == 0) = false) ∨ (((j : Int) == 1) = true ∧ ((fk : Int) == 0) = true ∧ ((k : Int) == 0) = true ∧ vnB s.data.toList = false) := by
        have h := HX.out
        unfold OtherS at h
        rcases h with h | ⟨h1, h⟩ | ⟨h1, h2, h⟩ | ⟨h1, h2, h3, h⟩
        · exact .inl (beq_eq_false_iff_ne.2 (by omega))
        · exact .inr (.inl ⟨beq_iff_eq.2 (by omega), beq_eq_false_iff_ne.2 (by omega)⟩)
        · exact .inr (.inr (.inl ⟨beq_iff_eq.2 (by omega), beq_iff_eq.2 (by omega), beq_eq_false_iff_ne.2 (by omega)⟩))
        · exact .inr (.inr (.inr ⟨beq_iff_eq.2 (by omega), beq_iff_eq.2 (by omega), beq_iff_eq.2 (by omega), h⟩))
      have HXX := Lib.hid hx'
      clear hx'
      rcases HXX.out with e1 | ⟨e1, e2⟩ | ⟨e1, e2, e3⟩ | ⟨e1, e2, e3, e4⟩
      all_goals
        clear HXX
        have cW := HK.out.1.cells
        go_wp2_with (go_at_call 71; refine (zzValid_any _ _ hs).mono ?_; rintro e w' ⟨rfl, rfl⟩)
        go_loopw [17] (fun i wr => RelS2 w wd pe lt gO w1.heap.size j cs s fO (fun _ => True) i wr) (fun i _ => j - (intOf i).toNat)
        case atStart => exact ⟨0, by omega, by go_num, HR.out, HK.out, trivial⟩
        case round =>
          clear HR HK cW
          obtain ⟨m, hm, rfl, hR, hK, _⟩ := hrel
          have cW := hK.1.cells
          by_cases hlt : m < j
          · have hlt' : (m : Int) < (j : Int) := by omega
            have i0 : (0 : Int) ≤ (m : Int) := by omega
            have c1 := hR.cell hlt
            have c2 := hK.2.2.1.cell hlt
            have HR := Lib.hid hR
            have HK := Lib.hid hK
            clear hR hK
            go_wp2
            go_quiet ((go_at_call 61; exact Calls.quiet_of_same (psame (PO.out m hlt) _)))
            go_wp2
            go_roundw
            case rel => exact ⟨m + 1, by omega, by go_num, HR.out.keep (bdrewN (Below.refl _ _) _), HK.out.keep (bdrewN (Below.refl _ _) _), trivial⟩
            case measure => simp [intOf]; omega
          · obtain rfl : m = j := by omega
            have hge : ¬ ((m : Int) < (m : Int)) := by omega
            have c4 := hK.2.1.2
            have hB := hK.2.2.2
            by_cases h16 : k = 16
            · have c13 : wr.cell? ⟨pe, 13, none⟩ = some (.pointer none) := by rw [hK.2.1.1.cells, H13.out, if_pos h16]
              have e16 : ((k : Int) == 16) = true := by simp; omega
              clear h16 hR hK
              go_wp2_with (go_at_call 38; refine (is_arithmWord _ _).mono ?_; rintro e w' ⟨rfl, rfl⟩)
              go_ret
              exact ⟨rfl, hB⟩
            · have c13 : wr.cell? ⟨pe, 13, none⟩ = some (.pointer (some ⟨lt, 0, none⟩)) := by rw [hK.2.1.1.cells, H13.out, if_neg h16]
              have e16 : ((k : Int) == 16) = false := by simp; omega
              clear h16 hR hK
              go_wp2_with (go_at_call 38; refine (is_arithmWord _ _).mono ?_; rintro e w' ⟨rfl, rfl⟩)
              go_ret
              exact ⟨rfl, hB⟩
end Go.Proofs.Ytnjdffnbkjjmeaa
