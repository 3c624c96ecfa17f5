/- FnInlineSubshellExact, by where the flagged level lies. -/
import Derived.Test.YtnjdffnbkjjmeaaLSS
namespace Go.Proofs.Ytnjdffnbkjjmeaa
open Go.RowKit
set_option maxHeartbeats 8000000 in
set_option maxRecDepth 100000 in
theorem law_ssA (D m kind s : Nat) (hD : D ≤ 65536) (hm : m ≤ 65536) (hk : kind ≤ 4) (hs : s < D) (w : World) :
    Calls Try.prog 3 #[.int .i64 (D : Int), .int .i64 (s : Int), .int .i64 (kind : Int), .int .i64 (m : Int)] w fun e w' => e = .returned (.bool true) ∧ Below w.heap.size w w' := by
  have hm1 := makeSt D (by omega)
  have hm2 := mkCmd D (by omega)
  have hm3 := mkBool D (by omega)
  have hm4 := mkInt D (by omega)
  have hm5 := makeSt m (by omega)
  have hne := st_neP
  go_enter Try.func3, Try.ntmps3
  go_wp2_with fail
  refine (chain153 D m (s : Int) kind hD hm hk _).mono ?_
  rintro e w1 ⟨gL, gl, f, lf, rfl, rL, hLv, hfD, rl, hLf, hB1⟩
  obtain ⟨T, hT⟩ := lv_pts hLv
  obtain ⟨xa, xn, xc, hx0⟩ := shape0 hT hfD
  have hsrc : ∃ (a : Option Addr) (n c : Nat) (fv : Nat → Value), f s = .slice a n c ∧ Src w1 a n fv ∧ (∀ i, i < n → ∃ p : Addr, fv i = .pointer (some p)) ∧ n ≤ 65536 := srcA hT hs
  have hterm : Term gL gl m (f s) w1 := .inl ⟨kind, f (s + 1), by omega, by have h := hLv s hs; rwa [show qf (s : Int) kind s = kind by unfold qf; rw [if_pos rfl]] at h⟩
  have hlv5 : ∀ j, j < s → Lv gL (f j) (f (j + 1)) 5 w1 := by
    intro j hj
    have h := hLv j (by omega)
    have e : qf (s : Int) kind j = 5 := by unfold qf; rw [if_neg (by omega)]
    rwa [e] at h
  obtain ⟨ya, yn, yc, yf, hys, hyr, hyp, hyn⟩ := hsrc
  have HX0 := Lib.hid hx0
  have HT := Lib.hid hT
  have RL := Lib.hid rL
  have Rl := Lib.hid rl
  have HFD := Lib.hid hfD
  have HLF := Lib.hid hLf
  have HTM := Lib.hid hterm
  have HL5 := Lib.hid hlv5
  have HYS := Lib.hid hys
  have HYR := Lib.hid hyr
  have HYP := Lib.hid hyp
  have lgL := rL.lt.2
  have lgl := rl.lt.2
  obtain ⟨qq, hqq⟩ : ∃ qq, qq = qf (s : Int) kind := ⟨_, rfl⟩
  rw [← hqq] at HT
  clear rL hLv hfD rl hLf hT hx0 hterm hlv5 hys hyr hyp hqq
  have q1 : (0 : Int) ≤ (s : Int) := by omega
  have q2 : (s : Int) < (D : Int) := by omega
  all_goals
    go_wp2_with fail
    have hb4 : Below w1.heap.size w1 ((((w1.alloc (.cells (madeCells #[.pointer none] D) 28)).alloc (.cells (madeCells #[.nilIface] D) 31)).alloc (.cells (madeCells #[.bool false] (4 * D)) 4)).alloc (.cells (madeCells #[.int .i64 0] D) 3)) := by go_grown
    refine wp_gen (S := fun W => Rows4 w1.heap.size D 0 T qq W ∧ Below w1.heap.size w1 W ∧ Below w.heap.size w W) ⟨rows4_fresh w1 D hD T qq, hb4, bmore hB1 hb4⟩ ?_
    have sW1 := hB1.size
    clear hb4 hB1
    rintro W ⟨hR, hb, hB⟩
    clear hm1 hm2 hm3 hm4
    go_loopw [15] (fun i wr => RelA w w1 D T qq i wr) (fun i _ => D - (intOf i).toNat)
    case atStart => exact ⟨0, by omega, by go_num, hR, hb, hB⟩
    case round =>
      clear hR hb hB
      obtain ⟨k, hk', rfl, hR, hb, hB⟩ := hrel
      by_cases hlt : k < D
      · obtain ⟨e, p1, p2, p3, p4, p5, p6, p7⟩ := HT.out k hlt
        have c0 : wr.cell? ⟨gL, k, none⟩ = some (.slice (some ⟨(T k).1, 0, none⟩) 1 1) := by rw [← e]; exact keepc hb (RL.out.cell (by omega))
        obtain ⟨lb, hlb⟩ : ∃ x, x = (T k).1 := ⟨_, rfl⟩
        obtain ⟨st, hst⟩ : ∃ x, x = (T k).2.1 := ⟨_, rfl⟩
        obtain ⟨sb, hsb⟩ : ∃ x, x = (T k).2.2.1 := ⟨_, rfl⟩
        obtain ⟨ra, hra⟩ : ∃ x, x = (T k).2.2.2.1 := ⟨_, rfl⟩
        obtain ⟨rn, hrn⟩ : ∃ x, x = (T k).2.2.2.2 := ⟨_, rfl⟩
        obtain ⟨b0, hb0⟩ : ∃ x, x = decide (qq k = 0) := ⟨_, rfl⟩
        obtain ⟨b1, hb1⟩ : ∃ x, x = decide (qq k = 1) := ⟨_, rfl⟩
        obtain ⟨b2, hb2⟩ : ∃ x, x = decide (qq k = 2) := ⟨_, rfl⟩
        obtain ⟨b3, hb3⟩ : ∃ x, x = decide (qq k = 3) := ⟨_, rfl⟩
        rw [← hlb] at c0 p1
        rw [← hst] at p1 p2 p3 p4 p5 p6 p7
        rw [← hsb] at p2
        rw [← hra, ← hrn] at p7
        rw [← hb0] at p3
        rw [← hb1] at p4
        rw [← hb2] at p5
        rw [← hb3] at p6
        have c1 := keepc hb p1
        have c2 := keepc hb p2
        have c3 := keepc hb p3
        have c4 := keepc hb p4
        have c5 := keepc hb p5
        have c6 := keepc hb p6
        have c7 := keepc hb p7
        have l2 := World.block_lt_of_cell? _ _ p2
        have n0 : ¬ st = w1.heap.size := by simp at l2; omega
        have n1 : ¬ st = w1.heap.size + 1 := by simp at l2; omega
        have n2 : ¬ st = w1.heap.size + 1 + 1 := by simp at l2; omega
        have n3 : ¬ st = w1.heap.size + 1 + 1 + 1 := by simp at l2; omega
        have HLB := Lib.hid hlb
        have HST := Lib.hid hst
        have HSB := Lib.hid hsb
        have HRN := Lib.hid hrn
        have HB0 := Lib.hid hb0
        have HB1 := Lib.hid hb1
        have HB2 := Lib.hid hb2
        have HB3 := Lib.hid hb3
        clear e p1 p2 p3 p4 p5 p6 p7 hlb hst hsb hra hrn hb0 hb1 hb2 hb3
        have d1 := hR.1.cell hlt
        have d2 := hR.2.1.cell hlt
        have d30 := hR.2.2.1.cell (j := 4 * k) (by omega)
        have d31 := hR.2.2.1.cell (j := 4 * k + 1) (by omega)
        have d32 := hR.2.2.1.cell (j := 4 * k + 2) (by omega)
        have d33 := hR.2.2.1.cell (j := 4 * k + 3) (by omega)
        have d4 := hR.2.2.2.cell hlt
        rw [if_neg (by omega)] at d1 d2 d30 d31 d32 d33 d4
        have z1 := hR.1.frz
        have z2 := hR.2.1.frz
        have z3 := hR.2.2.1.frz
        have z4 := hR.2.2.2.frz
        have i0 : (0 : Int) ≤ (k : Int) := by omega
        have i1 : (k : Int) < (D : Int) := by omega
        have i20 : (0 : Int) ≤ 4 * (k : Int) := by omega
        have i21 : (0 : Int) ≤ 4 * (k : Int) + 1 := by omega
        have i22 : (0 : Int) ≤ 4 * (k : Int) + 2 := by omega
        have i23 : (0 : Int) ≤ 4 * (k : Int) + 3 := by omega
        have i30 : 4 * (k : Int) < 4 * (D : Int) := by omega
        have i31 : 4 * (k : Int) + 1 < 4 * (D : Int) := by omega
        have i32 : 4 * (k : Int) + 2 < 4 * (D : Int) := by omega
        have i33 : 4 * (k : Int) + 3 < 4 * (D : Int) := by omega
        have t0 : (4 * (k : Int)).toNat = 4 * k := by omega
        have t1 : (4 * (k : Int) + 1).toNat = 4 * k + 1 := by omega
        have t2 : (4 * (k : Int) + 2).toNat = 4 * k + 2 := by omega
        have t3 : (4 * (k : Int) + 3).toNat = 4 * k + 3 := by omega
        have HR := Lib.hid hR
        clear hR
        go_wp2
        go_roundw
        case rel => exact ⟨k + 1, by omega, by go_num, rows4_step HR.out (by unfold hdV; rw [← HST.out]) (by unfold cmV; rw [← HSB.out]) (by rw [HB0.out]) (by rw [HB1.out]) (by rw [HB2.out]) (by rw [HB3.out]) (by unfold rdV; rw [← HRN.out]), below7 hb (Nat.le_refl _), below7 hB sW1⟩
        case measure => simp [intOf]; omega
      · obtain rfl : k = D := by omega
        have hge : ¬ (k : Int) < (k : Int) := by omega
        obtain ⟨wA, hwA⟩ : ∃ W, W = wr := ⟨_, rfl⟩
        subst hwA
        have HR := Lib.hid hR
        have HbA := Lib.hid hb
        have HBA := Lib.hid hB
        clear hR hb hB
        go_wp2
        have hb4 : Below wA.heap.size wA (wA.alloc (.cells (madeCells #[.pointer none] m) 28)) := by go_grown
        refine wp_gen (S := fun W => RowF W wA.heap.size wA.heap.size 28 m (fun _ => .pointer none) ∧ Below wA.heap.size wA W ∧ Below w.heap.size w W) ⟨RowF.newAt rfl _ _ (Nat.le_refl _) (by unfold maxLen; omega), hb4, bmore HBA.out hb4⟩ ?_
        rintro W ⟨hR, hb, hB⟩
        clear hm5 hb4
        go_loopw [18] (fun i wr => RelB w wA m lf i wr) (fun i _ => m - (intOf i).toNat)
        case atStart => exact ⟨0, by omega, by go_num, hR.congr (fun j _ => by simp), hb, hB⟩
        case round =>
          clear hR hb hB
          obtain ⟨i, hi, rfl, hR, hb, hB⟩ := hrel
          have hbw : Below w1.heap.size w1 wr := bmore HbA.out hb
          have c0 : wr.cell? ⟨gL, k, none⟩ = some (.slice (some ⟨gl, 0, none⟩) m m) := by rw [← HFD.out]; exact keepc hbw (RL.out.cell (by omega))
          have i0 : (0 : Int) ≤ (k : Int) := by omega
          have i1 : (k : Int) < (k : Int) + 1 := by omega
          by_cases hlt : i < m
          · obtain ⟨a, c, hlf, _⟩ := HLF.out i hlt
            have c1 : wr.cell? ⟨gl, i, none⟩ = some (.pointer (some ⟨a, 0, none⟩)) := by rw [← hlf]; exact keepc hbw (Rl.out.cell hlt)
            have d1 := hR.cell hlt
            rw [if_neg (by omega)] at d1
            have z1 := hR.frz
            have j0 : (0 : Int) ≤ (i : Int) := by omega
            have j1 : (i : Int) < (m : Int) := by omega
            have HRB := Lib.hid hR
            have HLF2 := Lib.hid hlf
            clear hR hlf
            go_wp2
            go_roundw
            case rel => exact ⟨i + 1, by omega, by go_num, (HRB.out.put _).congr (fun j _ => row_step HLF2.out.symm), hb.setCell (Nat.le_refl _) _, hB.setCell HBA.out.size _⟩
            case measure => simp [intOf]; omega
          · obtain rfl : i = m := by omega
            have hge2 : ¬ (i : Int) < (i : Int) := by omega
            have hx : wr.cell? ⟨gL, 0, none⟩ = some (.slice xa xn xc) := by rw [← HX0.out]; exact keepc hbw (RL.out.cell (by omega))
            have HRB := Lib.hid (hR.congr (f' := lf) (fun j hj => by rw [if_pos hj]))
            have HbB := Lib.hid hb
            have Hbw := Lib.hid hbw
            have HC0 := Lib.hid c0
            clear hR hb hbw c0
            go_wp2_with fail
            have h := ZZinline_any s gL gl i f wr ⟨_, _, _, HX0.out⟩ hm (fun j hj => (HL5.out j hj).keep Hbw.out) (HTM.out.keep Hbw.out)
            rw [HX0.out] at h
            refine h.mono ?_
            clear h
            rintro e w2 ⟨rfl, hb⟩
            rw [HYS.out]
            have hbw := bmore Hbw.out hb
            have hB := bmore hB hb
            have HRB := Lib.hid (HRB.out.keep hb)
            have HR := Lib.hid ((HR.out.keep HbB.out).keep hb)
            have hd : decide ((0 : Int) < (s : Int)) = decide (0 < s) := by simp
            have cs : w2.cell? ⟨gL, s, none⟩ = some (.slice ya yn yc) := by rw [← HYS.out]; exact keepc hbw (RL.out.cell (by omega))
            have k0 : (0 : Int) ≤ (s : Int) := by omega
            have k1 : (s : Int) < (k : Int) + 1 := by omega
            have Hbw := Lib.hid hbw
            clear hb hbw hx HC0
            go_wp2_with fail
            refine (sameStmts_any ya ya yn yc yc yf _ (HYR.out.keep Hbw.out) (HYR.out.keep Hbw.out) HYP.out hyn).mono ?_
            rintro e wB ⟨rfl, hb⟩
            have hbw := bmore Hbw.out hb
            have hB := bmore hB hb
            have HRB := Lib.hid (HRB.out.keep hb)
            have HR := Lib.hid (HR.out.keep hb)
            have Hbw := Lib.hid hbw
            clear hb hbw hd cs
            go_wp2_with fail
            go_loopw [21] (fun i wr => RelD w wB k i wr) (fun i _ => k - (intOf i).toNat)
            case atStart => exact ⟨0, by omega, by go_num, Below.refl _ _, hB⟩
            case round =>
              clear hB
              obtain ⟨q, hq, rfl, hbq, hB⟩ := hrel
              by_cases hlt : q < k
              · have hbz := bmore Hbw.out hbq
                obtain ⟨e, p1, p2, p3, p4, p5, p6, p7⟩ := HT.out q hlt
                have c0 : wr.cell? ⟨gL, q, none⟩ = some (.slice (some ⟨(T q).1, 0, none⟩) 1 1) := by rw [← e]; exact keepc hbz (RL.out.cell (by omega))
                obtain ⟨lb, hlb⟩ : ∃ x, x = (T q).1 := ⟨_, rfl⟩
                obtain ⟨st, hst⟩ : ∃ x, x = (T q).2.1 := ⟨_, rfl⟩
                obtain ⟨sb, hsb⟩ : ∃ x, x = (T q).2.2.1 := ⟨_, rfl⟩
                obtain ⟨ra, hra⟩ : ∃ x, x = (T q).2.2.2.1 := ⟨_, rfl⟩
                obtain ⟨rn, hrn⟩ : ∃ x, x = (T q).2.2.2.2 := ⟨_, rfl⟩
                obtain ⟨b0, hb0⟩ : ∃ x, x = decide (qq q = 0) := ⟨_, rfl⟩
                obtain ⟨b1, hb1⟩ : ∃ x, x = decide (qq q = 1) := ⟨_, rfl⟩
                obtain ⟨b2, hb2⟩ : ∃ x, x = decide (qq q = 2) := ⟨_, rfl⟩
                obtain ⟨b3, hb3⟩ : ∃ x, x = decide (qq q = 3) := ⟨_, rfl⟩
                rw [← hlb] at c0 p1
                rw [← hst] at p1 p2 p3 p4 p5 p6 p7
                rw [← hsb] at p2
                rw [← hra, ← hrn] at p7
                rw [← hb0] at p3
                rw [← hb1] at p4
                rw [← hb2] at p5
                rw [← hb3] at p6
                have c1 := keepc hbz p1
                have c2 := keepc hbz p2
                have c3 := keepc hbz p3
                have c4 := keepc hbz p4
                have c5 := keepc hbz p5
                have c6 := keepc hbz p6
                have c7 := keepc hbz p7
                have HLB := Lib.hid hlb
                have HST := Lib.hid hst
                have HSB := Lib.hid hsb
                have HRN := Lib.hid hrn
                have HB0 := Lib.hid hb0
                have HB1 := Lib.hid hb1
                have HB2 := Lib.hid hb2
                have HB3 := Lib.hid hb3
                clear e p1 p2 p3 p4 p5 p6 p7 hlb hst hsb hra hrn hb0 hb1 hb2 hb3
                have hR2 := HR.out.keep hbq
                have d1 := hR2.1.cell hlt
                have d2 := hR2.2.1.cell hlt
                have d30 := hR2.2.2.1.cell (j := 4 * q) (by omega)
                have d31 := hR2.2.2.1.cell (j := 4 * q + 1) (by omega)
                have d32 := hR2.2.2.1.cell (j := 4 * q + 2) (by omega)
                have d33 := hR2.2.2.1.cell (j := 4 * q + 3) (by omega)
                have d4 := hR2.2.2.2.cell hlt
                rw [if_pos (by omega)] at d1 d2 d30 d31 d32 d33 d4
                unfold hdV at d1
                unfold cmV at d2
                unfold flV at d30 d31 d32 d33
                unfold rdV at d4
                rw [show 4 * q / 4 = q by omega, show 4 * q % 4 = 0 by omega, ← HB0.out] at d30
                rw [show (4 * q + 1) / 4 = q by omega, show (4 * q + 1) % 4 = 1 by omega, ← HB1.out] at d31
                rw [show (4 * q + 2) / 4 = q by omega, show (4 * q + 2) % 4 = 2 by omega, ← HB2.out] at d32
                rw [show (4 * q + 3) / 4 = q by omega, show (4 * q + 3) % 4 = 3 by omega, ← HB3.out] at d33
                rw [← HST.out] at d1
                rw [← HSB.out] at d2
                rw [← HRN.out] at d4
                have i0' : (0 : Int) ≤ (q : Int) := by omega
                have i1' : (q : Int) < (k : Int) := by omega
                have i1'' : (q : Int) < (k : Int) + 1 := by omega
                have i20 : (0 : Int) ≤ 4 * (q : Int) := by omega
                have i21 : (0 : Int) ≤ 4 * (q : Int) + 1 := by omega
                have i22 : (0 : Int) ≤ 4 * (q : Int) + 2 := by omega
                have i23 : (0 : Int) ≤ 4 * (q : Int) + 3 := by omega
                have i30 : 4 * (q : Int) < 4 * (k : Int) := by omega
                have i31 : 4 * (q : Int) + 1 < 4 * (k : Int) := by omega
                have i32 : 4 * (q : Int) + 2 < 4 * (k : Int) := by omega
                have i33 : 4 * (q : Int) + 3 < 4 * (k : Int) := by omega
                have t0 : (4 * (q : Int)).toNat = 4 * q := by omega
                have t1 : (4 * (q : Int) + 1).toNat = 4 * q + 1 := by omega
                have t2 : (4 * (q : Int) + 2).toNat = 4 * q + 2 := by omega
                have t3 : (4 * (q : Int) + 3).toNat = 4 * q + 3 := by omega
                have v0 : IntKind.i64.wrap (4 * (q : Int)) = 4 * (q : Int) := IntWalk.i64_in _ (by omega)
                have v1 : IntKind.i64.wrap (4 * (q : Int) + 1) = 4 * (q : Int) + 1 := IntWalk.i64_in _ (by omega)
                have v2 : IntKind.i64.wrap (4 * (q : Int) + 2) = 4 * (q : Int) + 2 := IntWalk.i64_in _ (by omega)
                have v3 : IntKind.i64.wrap (4 * (q : Int) + 3) = 4 * (q : Int) + 3 := IntWalk.i64_in _ (by omega)
                clear hR2 hbz
                go_wp2
                go_quiet (fail)
                go_wp2
                go_quiet ((go_at_call 16; exact again (sameCmd_any _ _)))
                go_wp2
                go_quiet (fail)
                go_wp2
                go_quiet (fail)
                go_wp2
                clear v0 v1 v2 v3 t0 t1 t2 t3
                go_roundw
                case rel => exact ⟨q + 1, by omega, by go_num, bdrewN hbq _, bdrewN hB _⟩
                case measure => simp [intOf]; omega
              · obtain rfl : q = k := by omega
                have hge3 : ¬ (q : Int) < (q : Int) := by omega
                have hb2 := bmore Hbw.out hbq
                have c0 : wr.cell? ⟨gL, q, none⟩ = some (.slice (some ⟨gl, 0, none⟩) i i) := by rw [← HFD.out]; exact keepc hb2 (RL.out.cell (by omega))
                have s1 := (Rl.out.keep hb2).src
                have s2 := (HRB.out.keep hbq).src
                have S1 := Lib.hid s1
                have S2 := Lib.hid s2
                clear hb2 s1 s2
                go_wp2_with fail
                refine (sameStmts_any _ _ i _ _ lf _ S1.out S2.out (fun j hj => by obtain ⟨a, c, h, _⟩ := HLF.out j hj; exact ⟨_, h⟩) (by omega)).mono ?_
                rintro e w4 ⟨rfl, hb⟩
                have hB := bmore hB hb
                clear hb
                go_wp2
                go_ret
                exact ⟨rfl, hB⟩
end Go.Proofs.Ytnjdffnbkjjmeaa
