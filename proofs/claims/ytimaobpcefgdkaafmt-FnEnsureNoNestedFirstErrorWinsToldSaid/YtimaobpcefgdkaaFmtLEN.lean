/- The walk of FnEnsureNoNestedFirstErrorWins. -/
import Derived.Test.YtimaobpcefgdkaaFmtEN
import Derived.Handy
import Derived.OpenShut
namespace Go.Proofs.YtimaobpcefgdkaaFmt
open Go.RowKit
theorem zzBytesEN_any (fb : Bool) (nm : ByteArray) (o1 l1 c1 o2 l2 c2 : Int) (w : World) (hn : nm.size ≤ 9223372036854775807) :
    Calls Tryf.prog 5 #[.bool fb, .string nm, .int .u64 o1, .int .u64 l1, .int .u64 c1, .int .u64 o2, .int .u64 l2, .int .u64 c2] w fun e w' => ∃ b : Bool, e = .returned (.bool b) ∧ w = w' := by
  go_enter Tryf.func5, Tryf.ntmps5
  go_wp2
  all_goals (go_ret; exact ⟨_, rfl, rfl⟩)
theorem Bk.grn {w w' : World} {g b : Nat} {t : TypeId} {cs : Array Value} (h : Bk w g t cs) (hb : w.grownBy w' (some b)) (hg : g ≠ b) : Bk w' g t cs := h.grown hb (by intro e; injection e with e; exact hg e)
set_option maxHeartbeats 4000000 in
set_option maxRecDepth 100000 in
theorem walkEN (fb : Bool) (nm : ByteArray) (o1 l1 c1 o2 l2 c2 : Int) (hn : nm.size ≤ 9223372036854775807) (b1 : 0 ≤ o1 ∧ o1 < 18446744073709551616) (b2 : 0 ≤ l1 ∧ l1 < 18446744073709551616) (b3 : 0 ≤ c1 ∧ c1 < 18446744073709551616)
    (b4 : 0 ≤ o2 ∧ o2 < 18446744073709551616) (b5 : 0 ≤ l2 ∧ l2 < 18446744073709551616) (b6 : 0 ≤ c2 ∧ c2 < 18446744073709551616) (w : World) :
    Calls Tryf.prog 3 #[.bool fb, .string nm, .int .u64 o1, .int .u64 l1, .int .u64 c1, .int .u64 o2, .int .u64 l2, .int .u64 c2] w fun e w' => e = .returned (.bool true) ∧ Below w.heap.size w w' := by
  go_enter Tryf.func3, Tryf.ntmps3
  go_wp2_with fail
  refine (zzBytesEN_any fb nm o1 l1 c1 o2 l2 c2 w hn).mono ?_
  rintro e w' ⟨b, rfl, rfl⟩
  cases b
  · go_wp2
    go_ret
    exact ⟨rfl, Below.refl _ _⟩
  by_cases hsz : 1048576 < nm.size
  · have hsz' : (1048576 : Int) < (nm.size : Int) := by omega
    go_wp2
    go_ret
    exact ⟨rfl, Below.refl _ _⟩
  have hsz' : ¬ (1048576 : Int) < (nm.size : Int) := by omega
  go_wp2_with fail
  refine (newNest fb nm w).mono ?_
  rintro e w1 ⟨b, fp, rfl, hP, hlo, hbel⟩
  have HP := Lib.hid hP
  have HB := Lib.hid hbel
  clear hP hbel
  go_wp2_with fail
  refine (newPos_any o1 l1 c1 w1 b1.1 b1.2 b2.1 b2.2 b3.1 b3.2).mono ?_
  rintro e w2 ⟨rfl, hb2⟩
  obtain ⟨p1, hp1⟩ : ∃ z, z = npO o1 := ⟨_, rfl⟩
  obtain ⟨q1, hq1⟩ : ∃ z, z = npL l1 c1 := ⟨_, rfl⟩
  obtain ⟨p2, hp2⟩ : ∃ z, z = npO o2 := ⟨_, rfl⟩
  obtain ⟨q2, hq2⟩ : ∃ z, z = npL l2 c2 := ⟨_, rfl⟩
  rw [← hp1, ← hq1]
  clear hp1 hq1
  have HP2 := Lib.hid (HP.out.keep hb2)
  have HB2 := Lib.hid (HB.out.trans (hb2.mono HB.out.size))
  clear HP HB hb2
  go_wp2_with fail
  refine calls_gen (S := fun W => PP W b fp nm .nilIface 0 fb 1 ∧ Bk W w2.heap.size 28 #[.int .u32 p1, .int .u32 q1] ∧ Below w.heap.size w W) ⟨HP2.out.keep (by go_grown), ?_, HB2.out.trans ((by go_grown : Below w2.heap.size w2 _).mono HB2.out.size)⟩ ?_
  · first | exact Bk.fresh _ _ _ | exact (Bk.fresh w2 28 #[.int .u32 0, .int .u32 0]).put 0 (.int .u32 p1) |>.put 1 (.int .u32 q1)
  have hne1 : w2.heap.size ≠ b := by have := HP2.out.lt; omega
  have hge1 : w.heap.size ≤ w2.heap.size := HB2.out.size
  clear HP2 HB2
  rintro W3 ⟨hP, k1, hbel⟩
  have HP := Lib.hid hP
  have HK1 := Lib.hid k1
  have HB := Lib.hid hbel
  clear hP k1 hbel
  refine (newPos_any o2 l2 c2 W3 b4.1 b4.2 b5.1 b5.2 b6.1 b6.2).mono ?_
  rintro e w4 ⟨rfl, hb4⟩
  rw [← hp2, ← hq2]
  clear hp2 hq2
  have HP4 := Lib.hid (HP.out.keep hb4)
  have HK4 := Lib.hid (HK1.out.keep hb4)
  have HB4 := Lib.hid (HB.out.trans (hb4.mono HB.out.size))
  clear HP HB HK1 hb4
  go_upto_region 8 with (fail)
  refine wp_gen (S := fun W => PP W b fp nm .nilIface 0 fb 1 ∧ Bk W w2.heap.size 28 #[.int .u32 p1, .int .u32 q1] ∧ Bk W w4.heap.size 28 #[.int .u32 p2, .int .u32 q2] ∧ Below w.heap.size w W) ⟨HP4.out.keep (by go_grown), HK4.out.keep (by go_grown), ?_, HB4.out.trans ((by go_grown : Below w4.heap.size w4 _).mono HB4.out.size)⟩ ?_
  · first | exact Bk.fresh _ _ _ | exact (Bk.fresh w4 28 #[.int .u32 0, .int .u32 0]).put 0 (.int .u32 p2) |>.put 1 (.int .u32 q2)
  have hne2 : w4.heap.size ≠ b := by have := HP4.out.lt; omega
  clear HP4 HK4 HB4
  rintro W5 ⟨hP, k1, k2, hbel⟩
  have cA := k1.cells
  have x0 : W5.cell? ⟨w2.heap.size, 0, none⟩ = some (.int .u32 p1) := by rw [k1.cells]; rfl
  have x1 : W5.cell? ⟨w2.heap.size, 1, none⟩ = some (.int .u32 q1) := by rw [k1.cells]; rfl
  have y0 : W5.cell? ⟨w4.heap.size, 0, none⟩ = some (.int .u32 p2) := by rw [k2.cells]; rfl
  have y1 : W5.cell? ⟨w4.heap.size, 1, none⟩ = some (.int .u32 q2) := by rw [k2.cells]; rfl
  clear cA
  have HP := Lib.hid hP
  have HK1 := Lib.hid k1
  have HK2 := Lib.hid k2
  have HB := Lib.hid hbel
  clear hP k1 k2 hbel
  cases fb
  · go_wp2_with fail
    refine (zzEns (R := fun W w' => Below W.heap.size W w') (fun W hb _ => ens_no (HP.out.keep hb) p1 q1)).mono ?_
    rintro e w6 ⟨rfl, W, hbW, hbR⟩
    have hb6 : Below W5.heap.size W5 w6 := hbW.trans (hbR.mono hbW.size)
    have HP6 := Lib.hid (HP.out.keep hb6)
    have HB6 := Lib.hid (HB.out.trans (hb6.mono HB.out.size))
    have k6 := HK2.out.keep hb6
    have z0 : w6.cell? ⟨w4.heap.size, 0, none⟩ = some (.int .u32 p2) := by rw [k6.cells]; rfl
    have z1 : w6.cell? ⟨w4.heap.size, 1, none⟩ = some (.int .u32 q2) := by rw [k6.cells]; rfl
    clear hb6 hbW hbR k6
    go_wp2_with fail
    refine (zzEns (R := fun W w' => Below W.heap.size W w') (fun W hb _ => ens_no (HP6.out.keep hb) p2 q2)).mono ?_
    rintro e w7 ⟨rfl, W, hbW, hbR⟩
    have hb7 : Below w6.heap.size w6 w7 := hbW.trans (hbR.mono hbW.size)
    have HP7 := Lib.hid (HP6.out.keep hb7)
    have HB7 := Lib.hid (HB6.out.trans (hb7.mono HB6.out.size))
    clear hb7 hbW hbR
    go_wp2_with fail
    refine (errInfo_none HP7.out).mono ?_
    rintro e w8 ⟨rfl, hb8⟩
    have HB8 := Lib.hid (HB7.out.trans (hb8.mono HB7.out.size))
    have HS8 := Lib.hid HB8.out.size
    clear hb8
    go_wp2_with fail
    go_ret
    exact ⟨rfl, HB8.out.trans ((by go_grown : Below w8.heap.size w8 _).mono HS8.out)⟩
  · go_wp2_with fail
    refine (zzEns (R := fun W w' => (∃ s : ByteArray, PP w' b fp nm (parseErr nm p1 q1 s) 1 true 1) ∧ W.grownBy w' (some b)) (fun W hb _ => ens_first (HP.out.keep hb) p1 q1)).mono ?_
    rintro e w6 ⟨rfl, W, hbW, ⟨s, hP6⟩, hbR⟩
    have hg6 : W5.grownBy w6 (some b) := grown_tr (grown_of_below hbW _) hbR
    have HP6 := Lib.hid hP6
    have hB6 : Below w.heap.size w w6 := below_grown HB.out hg6 hlo
    have HB6 := Lib.hid hB6
    have kA := HK1.out.grn hg6 hne1
    have k6 := HK2.out.grn hg6 hne2
    have HKA := Lib.hid kA
    have z0 : w6.cell? ⟨w4.heap.size, 0, none⟩ = some (.int .u32 p2) := by rw [k6.cells]; rfl
    have z1 : w6.cell? ⟨w4.heap.size, 1, none⟩ = some (.int .u32 q2) := by rw [k6.cells]; rfl
    clear hP6 hg6 hB6 kA k6 hbW hbR
    go_wp2_with fail
    refine (zzEns (R := fun W w' => Below W.heap.size W w') (fun W hb _ => ens_more (HP6.out.keep hb) p2 q2)).mono ?_
    rintro e w7 ⟨rfl, W, hbW, hbR⟩
    have hb7 : Below w6.heap.size w6 w7 := hbW.trans (hbR.mono hbW.size)
    have HP7 := Lib.hid (HP6.out.keep hb7)
    have HB7 := Lib.hid (HB6.out.trans (hb7.mono HB6.out.size))
    have HK7 := Lib.hid (HKA.out.keep hb7)
    clear hb7 hbW hbR
    go_wp2_with fail
    refine (errInfo_some HP7.out).mono ?_
    rintro e w8 ⟨rfl, hb8⟩
    have HB8 := Lib.hid (HB7.out.trans (hb8.mono HB7.out.size))
    have HS8 := Lib.hid HB8.out.size
    have k8 := HK7.out.keep hb8
    have u0 : w8.cell? ⟨w2.heap.size, 0, none⟩ = some (.int .u32 p1) := by rw [k8.cells]; rfl
    have u1 : w8.cell? ⟨w2.heap.size, 1, none⟩ = some (.int .u32 q1) := by rw [k8.cells]; rfl
    have ul := k8.lt
    clear hb8 k8
    go_wp2_with fail
    go_ret
    exact ⟨rfl, HB8.out.trans ((by go_grown : Below w8.heap.size w8 _).mono HS8.out)⟩
theorem walkFnEnsureNoNestedFirstErrorWins (a0 : Bool) (a1 : ByteArray) (a2 a3 a4 a5 a6 a7 : Int) (w : World) (w1 : a1.size ≤ maxLen) (w2 : (Lit.int .u64 a2).wf = true) (w3 : (Lit.int .u64 a3).wf = true) (w4 : (Lit.int .u64 a4).wf = true) (w5 : (Lit.int .u64 a5).wf = true) (w6 : (Lit.int .u64 a6).wf = true) (w7 : (Lit.int .u64 a7).wf = true) :
    Calls Tryf.prog 3 #[.bool a0, .string a1, .int .u64 a2, .int .u64 a3, .int .u64 a4, .int .u64 a5, .int .u64 a6, .int .u64 a7] w fun e w' => e = .returned (.bool true) ∧ Below w.heap.size w w' :=
  walkEN a0 a1 a2 a3 a4 a5 a6 a7 (by unfold maxLen at w1; omega) (by have := bounds_u64 w2; omega) (by have := bounds_u64 w3; omega) (by have := bounds_u64 w4; omega) (by have := bounds_u64 w5; omega) (by have := bounds_u64 w6; omega) (by have := bounds_u64 w7; omega) w
end Go.Proofs.YtimaobpcefgdkaaFmt
