/- The walk of FnCheckLangFirstRefusalSticks. -/
import Derived.Test.YtimaobpcefgdkaaFmtML
import Derived.OpenShut
namespace Go.Proofs.YtimaobpcefgdkaaFmt
open Go.RowKit
/-- What is left behind a refusal. -/
def RF (W : World) (b fp : Nat) (L p q S : Int) : Prop :=
  ∃ (s : ByteArray) (a : Option Addr) (c B : Nat), PP W b fp ByteArray.empty (langErr ByteArray.empty p q s a (bl (effS S) 5).length c L) 1 false L ∧ W.ownsRow B 34 1 (.slice a (bl (effS S) 5).length c) (bl (effS S) 5).length ((bl (effS S) 5).map (Value.int .i64))
theorem RF.keep {W W1 : World} {b fp : Nat} {L p q S : Int} (h : RF W b fp L p q S) (hb : Below W.heap.size W W1) : RF W1 b fp L p q S := by
  obtain ⟨s, a, c, B, h1, h2⟩ := h
  exact ⟨s, a, c, B, h1.keep hb, own_below h2 hb⟩
theorem model_bl (s : Int) (w : World) : Calls Tryf.prog 16 #[.int .i64 s] w fun e w' => ∃ (a : Option Addr) (c : Nat), e = .returned (.slice a (bl (effS s) 5).length c) ∧ w'.ownsRow w.heap.size 3 1 (.slice a (bl (effS s) 5).length c) (bl (effS s) 5).length ((bl (effS s) 5).map (Value.int .i64)) ∧ Below w.heap.size w w' := by
  have h := model_any s w
  unfold RetM at h
  rw [← ml_eq] at h
  exact h
theorem Bk.grn {w w' : World} {g b : Nat} {t : TypeId} {cs : Array Value} (h : Bk w g t cs) (hb : w.grownBy w' (some b)) (hg : g ≠ b) : Bk w' g t cs := h.grown hb (by intro e; injection e with e; exact hg e)
set_option maxHeartbeats 8000000 in
set_option maxRecDepth 100000 in
theorem walkCL (L S1 S2 : Int) (bL : -9223372036854775808 ≤ L ∧ L ≤ 9223372036854775807) (w : World) :
    Calls Tryf.prog 4 #[.int .i64 L, .int .i64 S1, .int .i64 S2] w fun e w' => e = .returned (.bool true) ∧ Below w.heap.size w w' := by
  obtain ⟨p1, hp1⟩ : ∃ z, z = npO 0 := ⟨_, rfl⟩
  obtain ⟨q1, hq1⟩ : ∃ z, z = npL 1 1 := ⟨_, rfl⟩
  obtain ⟨p2, hp2⟩ : ∃ z, z = npO 5 := ⟨_, rfl⟩
  obtain ⟨q2, hq2⟩ : ∃ z, z = npL 2 3 := ⟨_, rfl⟩
  have HA1 := Lib.hid (adm_iff (s := S1) bL.1 bL.2)
  have HA2 := Lib.hid (adm_iff (s := S2) bL.1 bL.2)
  go_enter Tryf.func4, Tryf.ntmps4
  go_wp2_with fail
  refine (newPos_any 0 1 1 w (by omega) (by omega) (by omega) (by omega) (by omega) (by omega)).mono ?_
  rintro e w2 ⟨rfl, hb2⟩
  rw [← hp1, ← hq1]
  clear hp1 hq1
  have HB2 := Lib.hid hb2
  clear hb2
  go_wp2_with fail
  refine calls_gen (S := fun W => Bk W w2.heap.size 28 #[.int .u32 p1, .int .u32 q1] ∧ Below w.heap.size w W) ⟨?_, HB2.out.trans ((by go_grown : Below w2.heap.size w2 _).mono HB2.out.size)⟩ ?_
  · first | exact Bk.fresh _ _ _ | exact (Bk.fresh w2 28 #[.int .u32 0, .int .u32 0]).put 0 (.int .u32 p1) |>.put 1 (.int .u32 q1)
  clear HB2
  rintro W3 ⟨k1, hbel⟩
  have HK1 := Lib.hid k1
  have HB := Lib.hid hbel
  clear k1 hbel
  refine (newPos_any 5 2 3 W3 (by omega) (by omega) (by omega) (by omega) (by omega) (by omega)).mono ?_
  rintro e w4 ⟨rfl, hb4⟩
  rw [← hp2, ← hq2]
  clear hp2 hq2
  have HK4 := Lib.hid (HK1.out.keep hb4)
  have HB4 := Lib.hid (HB.out.trans (hb4.mono HB.out.size))
  clear HB HK1 hb4
  go_wp2_with fail
  refine calls_gen (S := fun W => Bk W w2.heap.size 28 #[.int .u32 p1, .int .u32 q1] ∧ Bk W w4.heap.size 28 #[.int .u32 p2, .int .u32 q2] ∧ Below w.heap.size w W) ⟨HK4.out.keep (by go_grown), ?_, HB4.out.trans ((by go_grown : Below w4.heap.size w4 _).mono HB4.out.size)⟩ ?_
  · first | exact Bk.fresh _ _ _ | exact (Bk.fresh w4 28 #[.int .u32 0, .int .u32 0]).put 0 (.int .u32 p2) |>.put 1 (.int .u32 q2)
  clear HK4 HB4
  rintro W5 ⟨k1, k2, hbel⟩
  have HK1 := Lib.hid k1
  have HK2 := Lib.hid k2
  have HB := Lib.hid hbel
  clear k1 k2 hbel
  refine (newLang L W5).mono ?_
  rintro e w6 ⟨b, fp, rfl, hP, hlo, hb6⟩
  have hlo' : w.heap.size ≤ b := Nat.le_trans HB.out.size hlo
  have hne1 : w2.heap.size ≠ b := by have := HK1.out.lt; omega
  have hne2 : w4.heap.size ≠ b := by have := HK2.out.lt; omega
  have HP := Lib.hid hP
  have k1 := HK1.out.keep hb6
  have k2 := HK2.out.keep hb6
  have x0 : w6.cell? ⟨w2.heap.size, 0, none⟩ = some (.int .u32 p1) := by rw [k1.cells]; rfl
  have x1 : w6.cell? ⟨w2.heap.size, 1, none⟩ = some (.int .u32 q1) := by rw [k1.cells]; rfl
  have HA := Lib.hid k1
  have HC := Lib.hid k2
  have HB6 := Lib.hid (HB.out.trans (hb6.mono HB.out.size))
  clear hP hb6 k1 k2 HK1 HK2 HB hlo
  cases hacc1 : (bits .and .i64 L S1 == L)
  · -- THE FIRST CALL REFUSES
    have hz1 : (bits .andNot .i64 L S1 == 0) = false := by rw [← HA1.out]; exact hacc1
    have HACC := Lib.hid hacc1
    clear hacc1
    go_wp2_with fail
    refine (zzCheck (R := fun W w' => Refused W b fp ByteArray.empty false L p1 q1 S1 w') (fun W hb _ => check_first (HP.out.keep hb) p1 q1 S1 featPlain HACC.out)).mono ?_
    rintro e w7 ⟨rfl, W, hbW, ⟨s, a, c, hP7, hrow7, hg7⟩⟩
    have hg : w6.grownBy w7 (some b) := grown_tr (grown_of_below hbW _) hg7
    have kA := HA.out.grn hg hne1
    have kC := HC.out.grn hg hne2
    have y0 : w7.cell? ⟨w4.heap.size, 0, none⟩ = some (.int .u32 p2) := by rw [kC.cells]; rfl
    have y1 : w7.cell? ⟨w4.heap.size, 1, none⟩ = some (.int .u32 q2) := by rw [kC.cells]; rfl
    have HRF : Hid (RF w7 b fp L p1 q1 S1) := Lib.hid ⟨s, a, c, _, hP7, hrow7⟩
    have HA7 := Lib.hid kA
    have HB7 := Lib.hid (below_grown HB6.out hg hlo')
    clear hP7 hrow7 hg7 hbW hg kA kC
    go_wp2_with fail
    refine (zzCheck (R := fun W w' => Below W.heap.size W w') (fun W hb _ => ?_)).mono ?_
    · obtain ⟨s2, a2, c2, B2, hP2, _⟩ := HRF.out.keep hb
      cases hacc2 : (bits .and .i64 L S2 == L)
      · exact check_more hP2 p2 q2 S2 featPlain hacc2
      · exact check_ok hP2 p2 q2 S2 _ hacc2
    rintro e w8 ⟨rfl, W, hbW, hbR⟩
    have hb8 : Below w7.heap.size w7 w8 := hbW.trans (hbR.mono hbW.size)
    obtain ⟨s, a, c, B, hP8, hrow8⟩ := HRF.out.keep hb8
    have k8 := HA7.out.keep hb8
    have HP8 := Lib.hid hP8
    have HR8 := Lib.hid hrow8
    have HA8 := Lib.hid k8
    have HB8 := Lib.hid (HB7.out.trans (hb8.mono HB7.out.size))
    clear hb8 hbW hbR hP8 hrow8 k8 HRF
    go_wp2_with fail
    refine (langErr_any HP8.out).mono ?_
    rintro e w9 ⟨rfl, hb9⟩
    have HP9 := Lib.hid (HP8.out.keep hb9)
    have HR9 := Lib.hid (own_below HR8.out hb9)
    have HA9 := Lib.hid (HA8.out.keep hb9)
    have HB9 := Lib.hid (HB8.out.trans (hb9.mono HB8.out.size))
    clear hb9
    go_upto_region 11 with (fail)
    refine wp_gen (S := fun W => PP W b fp ByteArray.empty (langErr ByteArray.empty p1 q1 s a (bl (effS S1) 5).length c L) 1 false L ∧ W.ownsRow B 34 1 (.slice a (bl (effS S1) 5).length c) (bl (effS S1) 5).length ((bl (effS S1) 5).map (Value.int .i64)) ∧ Bk W w2.heap.size 28 #[.int .u32 p1, .int .u32 q1] ∧ Bk W w9.heap.size 39 #[.string ByteArray.empty, .int .u32 p1, .int .u32 q1, .string s, .slice a (bl (effS S1) 5).length c, .int .i64 L] ∧ Below w.heap.size w W)
      ⟨HP9.out.keep (by go_grown), own_below HR9.out (by go_grown), HA9.out.keep (by go_grown), Bk.fresh _ _ _, HB9.out.trans ((by go_grown : Below w9.heap.size w9 _).mono HB9.out.size)⟩ ?_
    clear HP9 HR9 HA9 HB9
    rintro W ⟨hP, hrow, kA, kE, hbel⟩
    have HP := Lib.hid hP
    have HR := Lib.hid hrow
    have HB := Lib.hid hbel
    have z0 : W.cell? ⟨w2.heap.size, 0, none⟩ = some (.int .u32 p1) := by rw [kA.cells]; rfl
    have z1 : W.cell? ⟨w2.heap.size, 1, none⟩ = some (.int .u32 q1) := by rw [kA.cells]; rfl
    have e0 : W.cell? ⟨w9.heap.size, 0, none⟩ = some (.string ByteArray.empty) := by rw [kE.cells]; rfl
    have e1 : W.cell? ⟨w9.heap.size, 1, none⟩ = some (.int .u32 p1) := by rw [kE.cells]; rfl
    have e2 : W.cell? ⟨w9.heap.size, 2, none⟩ = some (.int .u32 q1) := by rw [kE.cells]; rfl
    have e4 : W.cell? ⟨w9.heap.size, 4, none⟩ = some (.slice a (bl (effS S1) 5).length c) := by rw [kE.cells]; rfl
    have e5 : W.cell? ⟨w9.heap.size, 5, none⟩ = some (.int .i64 L) := by rw [kE.cells]; rfl
    have lA := kA.lt
    have lE := kE.lt
    clear hP hrow hbel kA kE
    go_wp2_with (go_at_call 13; refine (tokIsEOF_1 HP.out).mono ?_; rintro e w' ⟨rfl, rfl⟩)
    have kB : Hid (∀ Y : World, Below W.heap.size W Y → (Y.cell? ⟨w2.heap.size, 0, none⟩ = some (.int .u32 p1) ∧ Y.cell? ⟨w2.heap.size, 1, none⟩ = some (.int .u32 q1) ∧ Y.cell? ⟨w9.heap.size, 1, none⟩ = some (.int .u32 p1) ∧ Y.cell? ⟨w9.heap.size, 2, none⟩ = some (.int .u32 q1) ∧ Y.cell? ⟨w9.heap.size, 4, none⟩ = some (.slice a (bl (effS S1) 5).length c))) := fun Y hb =>
      ⟨keepc hb z0, keepc hb z1, keepc hb e1, keepc hb e2, keepc hb e4⟩
    first
      | (go_region_held3 (fun Y => Y.cell? ⟨w2.heap.size, 0, none⟩ = some (.int .u32 p1) ∧ Y.cell? ⟨w2.heap.size, 1, none⟩ = some (.int .u32 q1) ∧ Y.cell? ⟨w9.heap.size, 1, none⟩ = some (.int .u32 p1) ∧ Y.cell? ⟨w9.heap.size, 2, none⟩ = some (.int .u32 q1) ∧ Y.cell? ⟨w9.heap.size, 4, none⟩ = some (.slice a (bl (effS S1) 5).length c))
          (first | exact kB.out _ hW4 | exact kB.out _ hW3 | exact kB.out _ (Below.drew (Below.refl _ _)))
          (first
            | (go_at_call 16; refine (model_bl S1 _).mono ?_; rintro e w3 ⟨a2, c2, rfl, hrow2, hb3⟩; have hW3 : Below W.heap.size W w3 := Below.trans (Below.drew (Below.refl _ _)) hb3; have HR2 := Lib.hid hrow2; clear hrow2 hb3)
            | (go_at_call 15; refine (same_any (own_below HR.out hW3) HR2.out (bl_len _ 5)).mono ?_; rintro e w5 ⟨rfl, hb5⟩; have hW4 : Below W.heap.size W w5 := Below.trans hW3 (Below.mono hb5 hW3.size))))
      | fail
    all_goals
      go_wp2
      go_ret
      exact ⟨rfl, HB.out.trans (hW4.mono HB.out.size)⟩
  · -- THE FIRST CALL ACCEPTS
    have hz1 : (bits .andNot .i64 L S1 == 0) = true := by rw [← HA1.out]; exact hacc1
    have HACC := Lib.hid hacc1
    clear hacc1
    go_wp2_with fail
    refine (zzCheck (R := fun W w' => Below W.heap.size W w') (fun W hb _ => check_ok (HP.out.keep hb) p1 q1 S1 _ HACC.out)).mono ?_
    rintro e w7 ⟨rfl, W, hbW, hbR⟩
    have hb7 : Below w6.heap.size w6 w7 := hbW.trans (hbR.mono hbW.size)
    have kC := HC.out.keep hb7
    have y0 : w7.cell? ⟨w4.heap.size, 0, none⟩ = some (.int .u32 p2) := by rw [kC.cells]; rfl
    have y1 : w7.cell? ⟨w4.heap.size, 1, none⟩ = some (.int .u32 q2) := by rw [kC.cells]; rfl
    have HP7 := Lib.hid (HP.out.keep hb7)
    have HC7 := Lib.hid kC
    have HB7 := Lib.hid (HB6.out.trans (hb7.mono HB6.out.size))
    clear hb7 hbW hbR kC
    cases hacc2 : (bits .and .i64 L S2 == L)
    · have hz2 : (bits .andNot .i64 L S2 == 0) = false := by rw [← HA2.out]; exact hacc2
      have HACC2 := Lib.hid hacc2
      clear hacc2
      go_wp2_with fail
      refine (zzCheck (R := fun W w' => Refused W b fp ByteArray.empty false L p2 q2 S2 w') (fun W hb _ => check_first (HP7.out.keep hb) p2 q2 S2 featPlain HACC2.out)).mono ?_
      rintro e w8 ⟨rfl, W, hbW, ⟨s, a, c, hP8, hrow8, hg8⟩⟩
      have hg : w7.grownBy w8 (some b) := grown_tr (grown_of_below hbW _) hg8
      have HP8 := Lib.hid hP8
      obtain ⟨B, hB⟩ : ∃ B, B = W.heap.size := ⟨_, rfl⟩
      rw [← hB] at hrow8
      have HR8 := Lib.hid hrow8
      have HA8 := Lib.hid (HC7.out.grn hg hne2)
      have HB8 := Lib.hid (below_grown HB7.out hg hlo')
      clear hP8 hrow8 hg8 hbW hg hB
      go_wp2_with fail
      refine (langErr_any HP8.out).mono ?_
      rintro e w9 ⟨rfl, hb9⟩
      have HP9 := Lib.hid (HP8.out.keep hb9)
      have HR9 := Lib.hid (own_below HR8.out hb9)
      have HA9 := Lib.hid (HA8.out.keep hb9)
      have HB9 := Lib.hid (HB8.out.trans (hb9.mono HB8.out.size))
      clear hb9
      go_upto_region 11 with (fail)
      refine wp_gen (S := fun W => PP W b fp ByteArray.empty (langErr ByteArray.empty p2 q2 s a (bl (effS S2) 5).length c L) 1 false L ∧ W.ownsRow B 34 1 (.slice a (bl (effS S2) 5).length c) (bl (effS S2) 5).length ((bl (effS S2) 5).map (Value.int .i64)) ∧ Bk W w4.heap.size 28 #[.int .u32 p2, .int .u32 q2] ∧ Bk W w9.heap.size 39 #[.string ByteArray.empty, .int .u32 p2, .int .u32 q2, .string s, .slice a (bl (effS S2) 5).length c, .int .i64 L] ∧ Below w.heap.size w W)
        ⟨HP9.out.keep (by go_grown), own_below HR9.out (by go_grown), HA9.out.keep (by go_grown), Bk.fresh _ _ _, HB9.out.trans ((by go_grown : Below w9.heap.size w9 _).mono HB9.out.size)⟩ ?_
      clear HP9 HR9 HA9 HB9
      rintro W ⟨hP, hrow, kA, kE, hbel⟩
      have HP := Lib.hid hP
      have HR := Lib.hid hrow
      have HB := Lib.hid hbel
      have z0 : W.cell? ⟨w4.heap.size, 0, none⟩ = some (.int .u32 p2) := by rw [kA.cells]; rfl
      have z1 : W.cell? ⟨w4.heap.size, 1, none⟩ = some (.int .u32 q2) := by rw [kA.cells]; rfl
      have e0 : W.cell? ⟨w9.heap.size, 0, none⟩ = some (.string ByteArray.empty) := by rw [kE.cells]; rfl
      have e1 : W.cell? ⟨w9.heap.size, 1, none⟩ = some (.int .u32 p2) := by rw [kE.cells]; rfl
      have e2 : W.cell? ⟨w9.heap.size, 2, none⟩ = some (.int .u32 q2) := by rw [kE.cells]; rfl
      have e4 : W.cell? ⟨w9.heap.size, 4, none⟩ = some (.slice a (bl (effS S2) 5).length c) := by rw [kE.cells]; rfl
      have e5 : W.cell? ⟨w9.heap.size, 5, none⟩ = some (.int .i64 L) := by rw [kE.cells]; rfl
      have lA := kA.lt
      have lE := kE.lt
      clear hP hrow hbel kA kE
      go_wp2_with (go_at_call 13; refine (tokIsEOF_1 HP.out).mono ?_; rintro e w' ⟨rfl, rfl⟩)
      have kB : Hid (∀ Y : World, Below W.heap.size W Y → (Y.cell? ⟨w4.heap.size, 0, none⟩ = some (.int .u32 p2) ∧ Y.cell? ⟨w4.heap.size, 1, none⟩ = some (.int .u32 q2) ∧ Y.cell? ⟨w9.heap.size, 1, none⟩ = some (.int .u32 p2) ∧ Y.cell? ⟨w9.heap.size, 2, none⟩ = some (.int .u32 q2) ∧ Y.cell? ⟨w9.heap.size, 4, none⟩ = some (.slice a (bl (effS S2) 5).length c))) := fun Y hb =>
        ⟨keepc hb z0, keepc hb z1, keepc hb e1, keepc hb e2, keepc hb e4⟩
      first
        | (go_region_held3 (fun Y => Y.cell? ⟨w4.heap.size, 0, none⟩ = some (.int .u32 p2) ∧ Y.cell? ⟨w4.heap.size, 1, none⟩ = some (.int .u32 q2) ∧ Y.cell? ⟨w9.heap.size, 1, none⟩ = some (.int .u32 p2) ∧ Y.cell? ⟨w9.heap.size, 2, none⟩ = some (.int .u32 q2) ∧ Y.cell? ⟨w9.heap.size, 4, none⟩ = some (.slice a (bl (effS S2) 5).length c))
            (first | exact kB.out _ hW4 | exact kB.out _ hW3 | exact kB.out _ (Below.drew (Below.refl _ _)))
            (first
              | (go_at_call 16; refine (model_bl S2 _).mono ?_; rintro e w3 ⟨a2, c2, rfl, hrow2, hb3⟩; have hW3 : Below W.heap.size W w3 := Below.trans (Below.drew (Below.refl _ _)) hb3; have HR2 := Lib.hid hrow2; clear hrow2 hb3)
              | (go_at_call 15; refine (same_any (own_below HR.out hW3) HR2.out (bl_len _ 5)).mono ?_; rintro e w5 ⟨rfl, hb5⟩; have hW4 : Below W.heap.size W w5 := Below.trans hW3 (Below.mono hb5 hW3.size))))
        | fail
      all_goals
        go_wp2
        go_ret
        exact ⟨rfl, HB.out.trans (hW4.mono HB.out.size)⟩
    · have hz2 : (bits .andNot .i64 L S2 == 0) = true := by rw [← HA2.out]; exact hacc2
      have HACC2 := Lib.hid hacc2
      clear hacc2
      go_wp2_with fail
      refine (zzCheck (R := fun W w' => Below W.heap.size W w') (fun W hb _ => check_ok (HP7.out.keep hb) p2 q2 S2 _ HACC2.out)).mono ?_
      rintro e w8 ⟨rfl, W, hbW, hbR⟩
      have hb8 : Below w7.heap.size w7 w8 := hbW.trans (hbR.mono hbW.size)
      have HP8 := Lib.hid (HP7.out.keep hb8)
      have HB8 := Lib.hid (HB7.out.trans (hb8.mono HB7.out.size))
      clear hb8 hbW hbR
      go_wp2_with fail
      refine (errIsNil_yes HP8.out).mono ?_
      rintro e w' ⟨rfl, rfl⟩
      go_wp2_with fail
      refine (tokIsEOF_0 HP8.out).mono ?_
      rintro e w' ⟨rfl, rfl⟩
      go_wp2_with fail
      go_ret
      exact ⟨rfl, HB8.out⟩
theorem walkFnCheckLangFirstRefusalSticks (a0 a1 a2 : Int) (w : World) (w0 : (Lit.int .i64 a0).wf = true) (_w1 : (Lit.int .i64 a1).wf = true) (_w2 : (Lit.int .i64 a2).wf = true) :
    Calls Tryf.prog 4 #[.int .i64 a0, .int .i64 a1, .int .i64 a2] w fun e w' => e = .returned (.bool true) ∧ Below w.heap.size w w' :=
  walkCL a0 a1 a2 (bounds_i64 w0) w
end Go.Proofs.YtimaobpcefgdkaaFmt
