/- zzModelLangs: the model's list of languages, in a slice of the call's own. -/
import Derived.Test.YtimaobpcefgdkaaFmtCLB
namespace Go.Proofs.YtimaobpcefgdkaaFmt
open Go.RowKit
theorem infoInt : (Tryf.prog.info? 3).map (fun i => (i.zero, i.size, i.bytes)) = some (some (.int .i64 0), 1, 8) := by kernel_rfl
theorem ml_len (s : Int) (bt : Bool) : ∀ k, (ml s bt k).length ≤ k
  | 0 => by simp [ml]
  | k + 1 => by
    have := ml_len s bt k
    unfold ml
    split
    · omega
    · split
      · omega
      · simp; omega
theorem below_app {B : Nat} {w W w1 : World} {v : Value} {n : Nat} {e : TypeId} {xs : List Value} (h : Below B w W) (hB : B ≤ W.heap.size) (hown : W.ownsRow B e 1 v n xs) (hg : W.grownBy w1 v.ownBlock) : Below B w w1 := by
  refine h.trans ⟨hg.os, hg.tape, hg.output, hg.size, fun i hi => hg.block i (by omega) ?_⟩
  intro h1
  have := hown.lt i h1.symm
  omega
theorem Bk.ne_own {w : World} {b base n : Nat} {t e : TypeId} {cs : Array Value} {v : Value} {xs : List Value} (h : Bk w b t cs) (ho : w.ownsRow base e 1 v n xs) (hne : t ≠ e) : v.ownBlock ≠ some b := by
  rcases ho.2 with ⟨h', _⟩ | ⟨g2, cap2, cur, h', _, hg, _⟩
  · subst h'; simp [Value.ownBlock]
  · subst h'
    intro hh
    simp [Value.ownBlock] at hh
    subst hh
    unfold Bk at h
    rw [h] at hg
    injection hg with hg
    injection hg with _ ht
    exact hne ht
theorem hbk2 {W w2 : World} {g base n : Nat} {t e : TypeId} {cs : Array Value} {v : Value} {xs : List Value} {o : Obj} (h : Bk W g t cs) (hg : (W.alloc o).grownBy w2 v.ownBlock) (ho : (W.alloc o).ownsRow base e 1 v n xs) (hne : t ≠ e := by decide) : Bk w2 g t cs :=
  (hg.block g (h.alloc o).lt (fun e' => ((h.alloc o).ne_own ho hne) e'.symm)).trans (h.alloc o)
/-- What the loop keeps. -/
def RM (w : World) (s : Int) (bt : Bool) (v i : Value) (wr : World) : Prop :=
  ∃ (k : Nat) (a : Option Addr) (c : Nat), k ≤ 5 ∧ i = .int .i64 k ∧ v = .slice a (ml s bt k).length c ∧ wr.ownsRow w.heap.size 3 1 (.slice a (ml s bt k).length c) (ml s bt k).length ((ml s bt k).map (Value.int .i64)) ∧ Bk wr w.heap.size 71 #[.int .i64 1, .int .i64 2, .int .i64 4, .int .i64 8, .int .i64 16] ∧ Below w.heap.size w wr
def RetM (w : World) (s : Int) (bt : Bool) (e : Ending) (w' : World) : Prop :=
  ∃ (a : Option Addr) (c : Nat), e = .returned (.slice a (ml s bt 5).length c) ∧ w'.ownsRow w.heap.size 3 1 (.slice a (ml s bt 5).length c) (ml s bt 5).length ((ml s bt 5).map (Value.int .i64)) ∧ Below w.heap.size w w'
set_option maxHeartbeats 8000000 in
set_option maxRecDepth 100000 in
theorem model_a (s : Int) (h0 : tb s 0 = false) (w : World) : Calls Tryf.prog 16 #[.int .i64 s] w (RetM w s false) := by
  obtain ⟨i0, hi, hz0, hz1, hz2⟩ := info_parts infoInt
  have hi2 := Lib.hid hi
  have hz0' := Lib.hid hz0
  have hz1' := Lib.hid hz1
  have hz2' := Lib.hid hz2
  clear hi hz0 hz1 hz2
  have f1 : (bits .and .i64 s 1 == 0) = true := by simpa using (and1 s).2 h0
  have g1 : (bits .and .i64 s 1 != 0) = false := by simpa using (and1 s).2 h0
  go_enter Tryf.func16, Tryf.ntmps16
  go_wp2
  go_loopw [5, 6, 7] (fun v i _ wr => RM w s false v i wr) (fun _ i _ _ => 5 - (intOf i).toNat)
  case atStart => exact ⟨0, none, 0, by omega, by go_num, rfl, World.ownsRow_nil _ _ _ _, by first | exact Bk.fresh _ _ _ | exact Bk.newAt rfl, by go_grown⟩
  case round =>
    obtain ⟨k, a, c, hk, rfl, rfl, hrow, hbk, hb⟩ := hrel
    have hle := ml_len s false k
    have cA := hbk.cells
    have lA := hbk.lt
    have HR := Lib.hid hrow
    have HK := Lib.hid hbk
    have HB := Lib.hid hb
    clear hrow hbk hb
    rcases (by omega : k = 0 ∨ k = 1 ∨ k = 2 ∨ k = 3 ∨ k = 4 ∨ k = 5) with rfl | rfl | rfl | rfl | rfl | rfl
    · have hc : wr.cell? ⟨w.heap.size, 0, none⟩ = some (.int .i64 1) := by rw [cA]; rfl
      clear cA
      · have hz : bits .and .i64 s 1 = 0 := (and1 s).2 h0
        have HZ := Lib.hid hz
        clear hz
        have hm : ml s false (0 + 1) = ml s false 0 := by simp [ml, pn, HZ.out]
        have HM := Lib.hid hm
        clear hm
        go_wp2
        go_roundw
        case rel => exact ⟨0 + 1, a, c, by omega, by go_num, by rw [HM.out], by rw [HM.out]; exact HR.out, HK.out, HB.out⟩
        case measure => simp [intOf]
    · have hc : wr.cell? ⟨w.heap.size, 1, none⟩ = some (.int .i64 2) := by rw [cA]; rfl
      clear cA
      · by_cases hz : bits .and .i64 s 2 = 0
        · have hz' : (bits .and .i64 s 2 == 0) = true := by simp [hz]
          have HZ := Lib.hid hz
          clear hz
          have hm : ml s false (1 + 1) = ml s false 1 := by simp [ml, pn, HZ.out]
          have HM := Lib.hid hm
          clear hm
          go_wp2
          go_roundw
          case rel => exact ⟨1 + 1, a, c, by omega, by go_num, by rw [HM.out], by rw [HM.out]; exact HR.out, HK.out, HB.out⟩
          case measure => simp [intOf]
        · have hz' : (bits .and .i64 s 2 == 0) = false := by simp [hz]
          have HZ := Lib.hid hz
          clear hz
          have hm : ml s false (1 + 1) = ml s false 1 ++ [2] := by simp [ml, pn, HZ.out]
          have HM := Lib.hid hm
          clear hm
          go_wp2_with (at_builtin; refine wpList_append_own _ rfl _ _ 43 rfl w.heap.size 3 i0 (.int .i64 0) 1 8 Tryf.underlying43 hi2.out hz0'.out hz1'.out hz2'.out rfl (by decide) (.slice a (ml s false 1).length c) (ml s false 1).length ((ml s false 1).map (Value.int .i64)) rfl (HR.out.alloc _) ⟨wr.heap.size, 0, none⟩ 1 1 [.int .i64 2] rfl rfl (news_one (Bk.fresh _ _ _)) (by simp [Value.oneCell']) (by unfold maxLen; omega) (by omega) (by simp; omega) ?_; intro v2 w2 ho2 hg2 _; obtain ⟨a2, c2, rfl⟩ := own_slice ho2; have hB2 := below_app (HB.out.alloc (by omega) _) (by simp; omega) (HR.out.alloc _) hg2; have hK2 := (hbk2 HK.out hg2 (HR.out.alloc _)); have HO2 := Lib.hid ho2; have HB2 := Lib.hid hB2; have HK2 := Lib.hid hK2; clear ho2 hg2 hB2 hK2)
          go_roundw
          case rel => exact ⟨1 + 1, a2, c2, by omega, by go_num, by rw [HM.out]; simp, by rw [HM.out]; simpa using HO2.out, HK2.out, HB2.out⟩
          case measure => simp [intOf]
    · have hc : wr.cell? ⟨w.heap.size, 2, none⟩ = some (.int .i64 4) := by rw [cA]; rfl
      clear cA
      · by_cases hz : bits .and .i64 s 4 = 0
        · have hz' : (bits .and .i64 s 4 == 0) = true := by simp [hz]
          have HZ := Lib.hid hz
          clear hz
          have hm : ml s false (2 + 1) = ml s false 2 := by simp [ml, pn, HZ.out]
          have HM := Lib.hid hm
          clear hm
          go_wp2
          go_roundw
          case rel => exact ⟨2 + 1, a, c, by omega, by go_num, by rw [HM.out], by rw [HM.out]; exact HR.out, HK.out, HB.out⟩
          case measure => simp [intOf]
        · have hz' : (bits .and .i64 s 4 == 0) = false := by simp [hz]
          have HZ := Lib.hid hz
          clear hz
          have hm : ml s false (2 + 1) = ml s false 2 ++ [4] := by simp [ml, pn, HZ.out]
          have HM := Lib.hid hm
          clear hm
          go_wp2_with (at_builtin; refine wpList_append_own _ rfl _ _ 43 rfl w.heap.size 3 i0 (.int .i64 0) 1 8 Tryf.underlying43 hi2.out hz0'.out hz1'.out hz2'.out rfl (by decide) (.slice a (ml s false 2).length c) (ml s false 2).length ((ml s false 2).map (Value.int .i64)) rfl (HR.out.alloc _) ⟨wr.heap.size, 0, none⟩ 1 1 [.int .i64 4] rfl rfl (news_one (Bk.fresh _ _ _)) (by simp [Value.oneCell']) (by unfold maxLen; omega) (by omega) (by simp; omega) ?_; intro v2 w2 ho2 hg2 _; obtain ⟨a2, c2, rfl⟩ := own_slice ho2; have hB2 := below_app (HB.out.alloc (by omega) _) (by simp; omega) (HR.out.alloc _) hg2; have hK2 := (hbk2 HK.out hg2 (HR.out.alloc _)); have HO2 := Lib.hid ho2; have HB2 := Lib.hid hB2; have HK2 := Lib.hid hK2; clear ho2 hg2 hB2 hK2)
          go_roundw
          case rel => exact ⟨2 + 1, a2, c2, by omega, by go_num, by rw [HM.out]; simp, by rw [HM.out]; simpa using HO2.out, HK2.out, HB2.out⟩
          case measure => simp [intOf]
    · have hc : wr.cell? ⟨w.heap.size, 3, none⟩ = some (.int .i64 8) := by rw [cA]; rfl
      clear cA
      · by_cases hz : bits .and .i64 s 8 = 0
        · have hz' : (bits .and .i64 s 8 == 0) = true := by simp [hz]
          have HZ := Lib.hid hz
          clear hz
          have hm : ml s false (3 + 1) = ml s false 3 := by simp [ml, pn, HZ.out]
          have HM := Lib.hid hm
          clear hm
          go_wp2
          go_roundw
          case rel => exact ⟨3 + 1, a, c, by omega, by go_num, by rw [HM.out], by rw [HM.out]; exact HR.out, HK.out, HB.out⟩
          case measure => simp [intOf]
        · have hz' : (bits .and .i64 s 8 == 0) = false := by simp [hz]
          have HZ := Lib.hid hz
          clear hz
          have hm : ml s false (3 + 1) = ml s false 3 ++ [8] := by simp [ml, pn, HZ.out]
          have HM := Lib.hid hm
          clear hm
          go_wp2_with (at_builtin; refine wpList_append_own _ rfl _ _ 43 rfl w.heap.size 3 i0 (.int .i64 0) 1 8 Tryf.underlying43 hi2.out hz0'.out hz1'.out hz2'.out rfl (by decide) (.slice a (ml s false 3).length c) (ml s false 3).length ((ml s false 3).map (Value.int .i64)) rfl (HR.out.alloc _) ⟨wr.heap.size, 0, none⟩ 1 1 [.int .i64 8] rfl rfl (news_one (Bk.fresh _ _ _)) (by simp [Value.oneCell']) (by unfold maxLen; omega) (by omega) (by simp; omega) ?_; intro v2 w2 ho2 hg2 _; obtain ⟨a2, c2, rfl⟩ := own_slice ho2; have hB2 := below_app (HB.out.alloc (by omega) _) (by simp; omega) (HR.out.alloc _) hg2; have hK2 := (hbk2 HK.out hg2 (HR.out.alloc _)); have HO2 := Lib.hid ho2; have HB2 := Lib.hid hB2; have HK2 := Lib.hid hK2; clear ho2 hg2 hB2 hK2)
          go_roundw
          case rel => exact ⟨3 + 1, a2, c2, by omega, by go_num, by rw [HM.out]; simp, by rw [HM.out]; simpa using HO2.out, HK2.out, HB2.out⟩
          case measure => simp [intOf]
    · have hc : wr.cell? ⟨w.heap.size, 4, none⟩ = some (.int .i64 16) := by rw [cA]; rfl
      clear cA
      · by_cases hz : bits .and .i64 s 16 = 0
        · have hz' : (bits .and .i64 s 16 == 0) = true := by simp [hz]
          have HZ := Lib.hid hz
          clear hz
          have hm : ml s false (4 + 1) = ml s false 4 := by simp [ml, pn, HZ.out]
          have HM := Lib.hid hm
          clear hm
          go_wp2
          go_roundw
          case rel => exact ⟨4 + 1, a, c, by omega, by go_num, by rw [HM.out], by rw [HM.out]; exact HR.out, HK.out, HB.out⟩
          case measure => simp [intOf]
        · have hz' : (bits .and .i64 s 16 == 0) = false := by simp [hz]
          have HZ := Lib.hid hz
          clear hz
          have hm : ml s false (4 + 1) = ml s false 4 ++ [16] := by simp [ml, pn, HZ.out]
          have HM := Lib.hid hm
          clear hm
          go_wp2_with (at_builtin; refine wpList_append_own _ rfl _ _ 43 rfl w.heap.size 3 i0 (.int .i64 0) 1 8 Tryf.underlying43 hi2.out hz0'.out hz1'.out hz2'.out rfl (by decide) (.slice a (ml s false 4).length c) (ml s false 4).length ((ml s false 4).map (Value.int .i64)) rfl (HR.out.alloc _) ⟨wr.heap.size, 0, none⟩ 1 1 [.int .i64 16] rfl rfl (news_one (Bk.fresh _ _ _)) (by simp [Value.oneCell']) (by unfold maxLen; omega) (by omega) (by simp; omega) ?_; intro v2 w2 ho2 hg2 _; obtain ⟨a2, c2, rfl⟩ := own_slice ho2; have hB2 := below_app (HB.out.alloc (by omega) _) (by simp; omega) (HR.out.alloc _) hg2; have hK2 := (hbk2 HK.out hg2 (HR.out.alloc _)); have HO2 := Lib.hid ho2; have HB2 := Lib.hid hB2; have HK2 := Lib.hid hK2; clear ho2 hg2 hB2 hK2)
          go_roundw
          case rel => exact ⟨4 + 1, a2, c2, by omega, by go_num, by rw [HM.out]; simp, by rw [HM.out]; simpa using HO2.out, HK2.out, HB2.out⟩
          case measure => simp [intOf]
    · clear cA
      go_wp2
      go_ret
      exact ⟨a, c, rfl, HR.out, HB.out⟩
set_option maxHeartbeats 8000000 in
set_option maxRecDepth 100000 in
theorem model_b (s : Int) (h0 : tb s 0 = true) (h3 : tb s 3 = false) (w : World) : Calls Tryf.prog 16 #[.int .i64 s] w (RetM w s false) := by
  obtain ⟨i0, hi, hz0, hz1, hz2⟩ := info_parts infoInt
  have hi2 := Lib.hid hi
  have hz0' := Lib.hid hz0
  have hz1' := Lib.hid hz1
  have hz2' := Lib.hid hz2
  clear hi hz0 hz1 hz2
  have f1 : (bits .and .i64 s 1 == 0) = false := by simpa [h0] using mt (and1 s).1
  have g1 : (bits .and .i64 s 1 != 0) = true := by simpa [h0] using mt (and1 s).1
  have f8 : (bits .and .i64 s 8 == 0) = true := by simpa using (and8 s).2 h3
  have g8 : (bits .and .i64 s 8 != 0) = false := by simpa using (and8 s).2 h3
  go_enter Tryf.func16, Tryf.ntmps16
  go_wp2
  go_loopw [5, 6, 7] (fun v i _ wr => RM w s false v i wr) (fun _ i _ _ => 5 - (intOf i).toNat)
  case atStart => exact ⟨0, none, 0, by omega, by go_num, rfl, World.ownsRow_nil _ _ _ _, by first | exact Bk.fresh _ _ _ | exact Bk.newAt rfl, by go_grown⟩
  case round =>
    obtain ⟨k, a, c, hk, rfl, rfl, hrow, hbk, hb⟩ := hrel
    have hle := ml_len s false k
    have cA := hbk.cells
    have lA := hbk.lt
    have HR := Lib.hid hrow
    have HK := Lib.hid hbk
    have HB := Lib.hid hb
    clear hrow hbk hb
    rcases (by omega : k = 0 ∨ k = 1 ∨ k = 2 ∨ k = 3 ∨ k = 4 ∨ k = 5) with rfl | rfl | rfl | rfl | rfl | rfl
    · have hc : wr.cell? ⟨w.heap.size, 0, none⟩ = some (.int .i64 1) := by rw [cA]; rfl
      clear cA
      · have hz : ¬ bits .and .i64 s 1 = 0 := by rw [and1, h0]; simp
        have HZ := Lib.hid hz
        clear hz
        have hm : ml s false (0 + 1) = ml s false 0 ++ [1] := by simp [ml, pn, HZ.out]
        have HM := Lib.hid hm
        clear hm
        go_wp2_with (at_builtin; refine wpList_append_own _ rfl _ _ 43 rfl w.heap.size 3 i0 (.int .i64 0) 1 8 Tryf.underlying43 hi2.out hz0'.out hz1'.out hz2'.out rfl (by decide) (.slice a (ml s false 0).length c) (ml s false 0).length ((ml s false 0).map (Value.int .i64)) rfl (HR.out.alloc _) ⟨wr.heap.size, 0, none⟩ 1 1 [.int .i64 1] rfl rfl (news_one (Bk.fresh _ _ _)) (by simp [Value.oneCell']) (by unfold maxLen; omega) (by omega) (by simp; omega) ?_; intro v2 w2 ho2 hg2 _; obtain ⟨a2, c2, rfl⟩ := own_slice ho2; have hB2 := below_app (HB.out.alloc (by omega) _) (by simp; omega) (HR.out.alloc _) hg2; have hK2 := (hbk2 HK.out hg2 (HR.out.alloc _)); have HO2 := Lib.hid ho2; have HB2 := Lib.hid hB2; have HK2 := Lib.hid hK2; clear ho2 hg2 hB2 hK2)
        go_roundw
        case rel => exact ⟨0 + 1, a2, c2, by omega, by go_num, by rw [HM.out]; simp, by rw [HM.out]; simpa using HO2.out, HK2.out, HB2.out⟩
        case measure => simp [intOf]
    · have hc : wr.cell? ⟨w.heap.size, 1, none⟩ = some (.int .i64 2) := by rw [cA]; rfl
      clear cA
      · by_cases hz : bits .and .i64 s 2 = 0
        · have hz' : (bits .and .i64 s 2 == 0) = true := by simp [hz]
          have HZ := Lib.hid hz
          clear hz
          have hm : ml s false (1 + 1) = ml s false 1 := by simp [ml, pn, HZ.out]
          have HM := Lib.hid hm
          clear hm
          go_wp2
          go_roundw
          case rel => exact ⟨1 + 1, a, c, by omega, by go_num, by rw [HM.out], by rw [HM.out]; exact HR.out, HK.out, HB.out⟩
          case measure => simp [intOf]
        · have hz' : (bits .and .i64 s 2 == 0) = false := by simp [hz]
          have HZ := Lib.hid hz
          clear hz
          have hm : ml s false (1 + 1) = ml s false 1 ++ [2] := by simp [ml, pn, HZ.out]
          have HM := Lib.hid hm
          clear hm
          go_wp2_with (at_builtin; refine wpList_append_own _ rfl _ _ 43 rfl w.heap.size 3 i0 (.int .i64 0) 1 8 Tryf.underlying43 hi2.out hz0'.out hz1'.out hz2'.out rfl (by decide) (.slice a (ml s false 1).length c) (ml s false 1).length ((ml s false 1).map (Value.int .i64)) rfl (HR.out.alloc _) ⟨wr.heap.size, 0, none⟩ 1 1 [.int .i64 2] rfl rfl (news_one (Bk.fresh _ _ _)) (by simp [Value.oneCell']) (by unfold maxLen; omega) (by omega) (by simp; omega) ?_; intro v2 w2 ho2 hg2 _; obtain ⟨a2, c2, rfl⟩ := own_slice ho2; have hB2 := below_app (HB.out.alloc (by omega) _) (by simp; omega) (HR.out.alloc _) hg2; have hK2 := (hbk2 HK.out hg2 (HR.out.alloc _)); have HO2 := Lib.hid ho2; have HB2 := Lib.hid hB2; have HK2 := Lib.hid hK2; clear ho2 hg2 hB2 hK2)
          go_roundw
          case rel => exact ⟨1 + 1, a2, c2, by omega, by go_num, by rw [HM.out]; simp, by rw [HM.out]; simpa using HO2.out, HK2.out, HB2.out⟩
          case measure => simp [intOf]
    · have hc : wr.cell? ⟨w.heap.size, 2, none⟩ = some (.int .i64 4) := by rw [cA]; rfl
      clear cA
      · by_cases hz : bits .and .i64 s 4 = 0
        · have hz' : (bits .and .i64 s 4 == 0) = true := by simp [hz]
          have HZ := Lib.hid hz
          clear hz
          have hm : ml s false (2 + 1) = ml s false 2 := by simp [ml, pn, HZ.out]
          have HM := Lib.hid hm
          clear hm
          go_wp2
          go_roundw
          case rel => exact ⟨2 + 1, a, c, by omega, by go_num, by rw [HM.out], by rw [HM.out]; exact HR.out, HK.out, HB.out⟩
          case measure => simp [intOf]
        · have hz' : (bits .and .i64 s 4 == 0) = false := by simp [hz]
          have HZ := Lib.hid hz
          clear hz
          have hm : ml s false (2 + 1) = ml s false 2 ++ [4] := by simp [ml, pn, HZ.out]
          have HM := Lib.hid hm
          clear hm
          go_wp2_with (at_builtin; refine wpList_append_own _ rfl _ _ 43 rfl w.heap.size 3 i0 (.int .i64 0) 1 8 Tryf.underlying43 hi2.out hz0'.out hz1'.out hz2'.out rfl (by decide) (.slice a (ml s false 2).length c) (ml s false 2).length ((ml s false 2).map (Value.int .i64)) rfl (HR.out.alloc _) ⟨wr.heap.size, 0, none⟩ 1 1 [.int .i64 4] rfl rfl (news_one (Bk.fresh _ _ _)) (by simp [Value.oneCell']) (by unfold maxLen; omega) (by omega) (by simp; omega) ?_; intro v2 w2 ho2 hg2 _; obtain ⟨a2, c2, rfl⟩ := own_slice ho2; have hB2 := below_app (HB.out.alloc (by omega) _) (by simp; omega) (HR.out.alloc _) hg2; have hK2 := (hbk2 HK.out hg2 (HR.out.alloc _)); have HO2 := Lib.hid ho2; have HB2 := Lib.hid hB2; have HK2 := Lib.hid hK2; clear ho2 hg2 hB2 hK2)
          go_roundw
          case rel => exact ⟨2 + 1, a2, c2, by omega, by go_num, by rw [HM.out]; simp, by rw [HM.out]; simpa using HO2.out, HK2.out, HB2.out⟩
          case measure => simp [intOf]
    · have hc : wr.cell? ⟨w.heap.size, 3, none⟩ = some (.int .i64 8) := by rw [cA]; rfl
      clear cA
      · have hz : bits .and .i64 s 8 = 0 := (and8 s).2 h3
        have HZ := Lib.hid hz
        clear hz
        have hm : ml s false (3 + 1) = ml s false 3 := by simp [ml, pn, HZ.out]
        have HM := Lib.hid hm
        clear hm
        go_wp2
        go_roundw
        case rel => exact ⟨3 + 1, a, c, by omega, by go_num, by rw [HM.out], by rw [HM.out]; exact HR.out, HK.out, HB.out⟩
        case measure => simp [intOf]
    · have hc : wr.cell? ⟨w.heap.size, 4, none⟩ = some (.int .i64 16) := by rw [cA]; rfl
      clear cA
      · by_cases hz : bits .and .i64 s 16 = 0
        · have hz' : (bits .and .i64 s 16 == 0) = true := by simp [hz]
          have HZ := Lib.hid hz
          clear hz
          have hm : ml s false (4 + 1) = ml s false 4 := by simp [ml, pn, HZ.out]
          have HM := Lib.hid hm
          clear hm
          go_wp2
          go_roundw
          case rel => exact ⟨4 + 1, a, c, by omega, by go_num, by rw [HM.out], by rw [HM.out]; exact HR.out, HK.out, HB.out⟩
          case measure => simp [intOf]
        · have hz' : (bits .and .i64 s 16 == 0) = false := by simp [hz]
          have HZ := Lib.hid hz
          clear hz
          have hm : ml s false (4 + 1) = ml s false 4 ++ [16] := by simp [ml, pn, HZ.out]
          have HM := Lib.hid hm
          clear hm
          go_wp2_with (at_builtin; refine wpList_append_own _ rfl _ _ 43 rfl w.heap.size 3 i0 (.int .i64 0) 1 8 Tryf.underlying43 hi2.out hz0'.out hz1'.out hz2'.out rfl (by decide) (.slice a (ml s false 4).length c) (ml s false 4).length ((ml s false 4).map (Value.int .i64)) rfl (HR.out.alloc _) ⟨wr.heap.size, 0, none⟩ 1 1 [.int .i64 16] rfl rfl (news_one (Bk.fresh _ _ _)) (by simp [Value.oneCell']) (by unfold maxLen; omega) (by omega) (by simp; omega) ?_; intro v2 w2 ho2 hg2 _; obtain ⟨a2, c2, rfl⟩ := own_slice ho2; have hB2 := below_app (HB.out.alloc (by omega) _) (by simp; omega) (HR.out.alloc _) hg2; have hK2 := (hbk2 HK.out hg2 (HR.out.alloc _)); have HO2 := Lib.hid ho2; have HB2 := Lib.hid hB2; have HK2 := Lib.hid hK2; clear ho2 hg2 hB2 hK2)
          go_roundw
          case rel => exact ⟨4 + 1, a2, c2, by omega, by go_num, by rw [HM.out]; simp, by rw [HM.out]; simpa using HO2.out, HK2.out, HB2.out⟩
          case measure => simp [intOf]
    · clear cA
      go_wp2
      go_ret
      exact ⟨a, c, rfl, HR.out, HB.out⟩
set_option maxHeartbeats 8000000 in
set_option maxRecDepth 100000 in
theorem model_c (s : Int) (h0 : tb s 0 = true) (h3 : tb s 3 = true) (w : World) : Calls Tryf.prog 16 #[.int .i64 s] w (RetM w s true) := by
  obtain ⟨i0, hi, hz0, hz1, hz2⟩ := info_parts infoInt
  have hi2 := Lib.hid hi
  have hz0' := Lib.hid hz0
  have hz1' := Lib.hid hz1
  have hz2' := Lib.hid hz2
  clear hi hz0 hz1 hz2
  have f1 : (bits .and .i64 s 1 == 0) = false := by simpa [h0] using mt (and1 s).1
  have g1 : (bits .and .i64 s 1 != 0) = true := by simpa [h0] using mt (and1 s).1
  have f8 : (bits .and .i64 s 8 == 0) = false := by simpa [h3] using mt (and8 s).1
  have g8 : (bits .and .i64 s 8 != 0) = true := by simpa [h3] using mt (and8 s).1
  go_enter Tryf.func16, Tryf.ntmps16
  go_wp2
  go_loopw [5, 6, 7] (fun v i _ wr => RM w s true v i wr) (fun _ i _ _ => 5 - (intOf i).toNat)
  case atStart => exact ⟨0, none, 0, by omega, by go_num, rfl, World.ownsRow_nil _ _ _ _, by first | exact Bk.fresh _ _ _ | exact Bk.newAt rfl, by go_grown⟩
  case round =>
    obtain ⟨k, a, c, hk, rfl, rfl, hrow, hbk, hb⟩ := hrel
    have hle := ml_len s true k
    have cA := hbk.cells
    have lA := hbk.lt
    have HR := Lib.hid hrow
    have HK := Lib.hid hbk
    have HB := Lib.hid hb
    clear hrow hbk hb
    rcases (by omega : k = 0 ∨ k = 1 ∨ k = 2 ∨ k = 3 ∨ k = 4 ∨ k = 5) with rfl | rfl | rfl | rfl | rfl | rfl
    · have hc : wr.cell? ⟨w.heap.size, 0, none⟩ = some (.int .i64 1) := by rw [cA]; rfl
      clear cA
      · have hz : ¬ bits .and .i64 s 1 = 0 := by rw [and1, h0]; simp
        have HZ := Lib.hid hz
        clear hz
        have hm : ml s true (0 + 1) = ml s true 0 ++ [1] := by simp [ml, pn, HZ.out]
        have HM := Lib.hid hm
        clear hm
        go_wp2_with (at_builtin; refine wpList_append_own _ rfl _ _ 43 rfl w.heap.size 3 i0 (.int .i64 0) 1 8 Tryf.underlying43 hi2.out hz0'.out hz1'.out hz2'.out rfl (by decide) (.slice a (ml s true 0).length c) (ml s true 0).length ((ml s true 0).map (Value.int .i64)) rfl (HR.out.alloc _) ⟨wr.heap.size, 0, none⟩ 1 1 [.int .i64 1] rfl rfl (news_one (Bk.fresh _ _ _)) (by simp [Value.oneCell']) (by unfold maxLen; omega) (by omega) (by simp; omega) ?_; intro v2 w2 ho2 hg2 _; obtain ⟨a2, c2, rfl⟩ := own_slice ho2; have hB2 := below_app (HB.out.alloc (by omega) _) (by simp; omega) (HR.out.alloc _) hg2; have hK2 := (hbk2 HK.out hg2 (HR.out.alloc _)); have HO2 := Lib.hid ho2; have HB2 := Lib.hid hB2; have HK2 := Lib.hid hK2; clear ho2 hg2 hB2 hK2)
        go_roundw
        case rel => exact ⟨0 + 1, a2, c2, by omega, by go_num, by rw [HM.out]; simp, by rw [HM.out]; simpa using HO2.out, HK2.out, HB2.out⟩
        case measure => simp [intOf]
    · have hc : wr.cell? ⟨w.heap.size, 1, none⟩ = some (.int .i64 2) := by rw [cA]; rfl
      clear cA
      · by_cases hz : bits .and .i64 s 2 = 0
        · have hz' : (bits .and .i64 s 2 == 0) = true := by simp [hz]
          have HZ := Lib.hid hz
          clear hz
          have hm : ml s true (1 + 1) = ml s true 1 := by simp [ml, pn, HZ.out]
          have HM := Lib.hid hm
          clear hm
          go_wp2
          go_roundw
          case rel => exact ⟨1 + 1, a, c, by omega, by go_num, by rw [HM.out], by rw [HM.out]; exact HR.out, HK.out, HB.out⟩
          case measure => simp [intOf]
        · have hz' : (bits .and .i64 s 2 == 0) = false := by simp [hz]
          have HZ := Lib.hid hz
          clear hz
          have hm : ml s true (1 + 1) = ml s true 1 ++ [2] := by simp [ml, pn, HZ.out]
          have HM := Lib.hid hm
          clear hm
          go_wp2_with (at_builtin; refine wpList_append_own _ rfl _ _ 43 rfl w.heap.size 3 i0 (.int .i64 0) 1 8 Tryf.underlying43 hi2.out hz0'.out hz1'.out hz2'.out rfl (by decide) (.slice a (ml s true 1).length c) (ml s true 1).length ((ml s true 1).map (Value.int .i64)) rfl (HR.out.alloc _) ⟨wr.heap.size, 0, none⟩ 1 1 [.int .i64 2] rfl rfl (news_one (Bk.fresh _ _ _)) (by simp [Value.oneCell']) (by unfold maxLen; omega) (by omega) (by simp; omega) ?_; intro v2 w2 ho2 hg2 _; obtain ⟨a2, c2, rfl⟩ := own_slice ho2; have hB2 := below_app (HB.out.alloc (by omega) _) (by simp; omega) (HR.out.alloc _) hg2; have hK2 := (hbk2 HK.out hg2 (HR.out.alloc _)); have HO2 := Lib.hid ho2; have HB2 := Lib.hid hB2; have HK2 := Lib.hid hK2; clear ho2 hg2 hB2 hK2)
          go_roundw
          case rel => exact ⟨1 + 1, a2, c2, by omega, by go_num, by rw [HM.out]; simp, by rw [HM.out]; simpa using HO2.out, HK2.out, HB2.out⟩
          case measure => simp [intOf]
    · have hc : wr.cell? ⟨w.heap.size, 2, none⟩ = some (.int .i64 4) := by rw [cA]; rfl
      clear cA
      · by_cases hz : bits .and .i64 s 4 = 0
        · have hz' : (bits .and .i64 s 4 == 0) = true := by simp [hz]
          have HZ := Lib.hid hz
          clear hz
          have hm : ml s true (2 + 1) = ml s true 2 := by simp [ml, pn, HZ.out]
          have HM := Lib.hid hm
          clear hm
          go_wp2
          go_roundw
          case rel => exact ⟨2 + 1, a, c, by omega, by go_num, by rw [HM.out], by rw [HM.out]; exact HR.out, HK.out, HB.out⟩
          case measure => simp [intOf]
        · have hz' : (bits .and .i64 s 4 == 0) = false := by simp [hz]
          have HZ := Lib.hid hz
          clear hz
          have hm : ml s true (2 + 1) = ml s true 2 ++ [4] := by simp [ml, pn, HZ.out]
          have HM := Lib.hid hm
          clear hm
          go_wp2_with (at_builtin; refine wpList_append_own _ rfl _ _ 43 rfl w.heap.size 3 i0 (.int .i64 0) 1 8 Tryf.underlying43 hi2.out hz0'.out hz1'.out hz2'.out rfl (by decide) (.slice a (ml s true 2).length c) (ml s true 2).length ((ml s true 2).map (Value.int .i64)) rfl (HR.out.alloc _) ⟨wr.heap.size, 0, none⟩ 1 1 [.int .i64 4] rfl rfl (news_one (Bk.fresh _ _ _)) (by simp [Value.oneCell']) (by unfold maxLen; omega) (by omega) (by simp; omega) ?_; intro v2 w2 ho2 hg2 _; obtain ⟨a2, c2, rfl⟩ := own_slice ho2; have hB2 := below_app (HB.out.alloc (by omega) _) (by simp; omega) (HR.out.alloc _) hg2; have hK2 := (hbk2 HK.out hg2 (HR.out.alloc _)); have HO2 := Lib.hid ho2; have HB2 := Lib.hid hB2; have HK2 := Lib.hid hK2; clear ho2 hg2 hB2 hK2)
          go_roundw
          case rel => exact ⟨2 + 1, a2, c2, by omega, by go_num, by rw [HM.out]; simp, by rw [HM.out]; simpa using HO2.out, HK2.out, HB2.out⟩
          case measure => simp [intOf]
    · have hc : wr.cell? ⟨w.heap.size, 3, none⟩ = some (.int .i64 8) := by rw [cA]; rfl
      clear cA
      · have hz : ¬ bits .and .i64 s 8 = 0 := by rw [and8, h3]; simp
        have HZ := Lib.hid hz
        clear hz
        have hm : ml s true (3 + 1) = ml s true 3 := by simp [ml, pn]
        have HM := Lib.hid hm
        clear hm
        go_wp2
        go_roundw
        case rel => exact ⟨3 + 1, a, c, by omega, by go_num, by rw [HM.out], by rw [HM.out]; exact HR.out, HK.out, HB.out⟩
        case measure => simp [intOf]
    · have hc : wr.cell? ⟨w.heap.size, 4, none⟩ = some (.int .i64 16) := by rw [cA]; rfl
      clear cA
      · by_cases hz : bits .and .i64 s 16 = 0
        · have hz' : (bits .and .i64 s 16 == 0) = true := by simp [hz]
          have HZ := Lib.hid hz
          clear hz
          have hm : ml s true (4 + 1) = ml s true 4 := by simp [ml, pn, HZ.out]
          have HM := Lib.hid hm
          clear hm
          go_wp2
          go_roundw
          case rel => exact ⟨4 + 1, a, c, by omega, by go_num, by rw [HM.out], by rw [HM.out]; exact HR.out, HK.out, HB.out⟩
          case measure => simp [intOf]
        · have hz' : (bits .and .i64 s 16 == 0) = false := by simp [hz]
          have HZ := Lib.hid hz
          clear hz
          have hm : ml s true (4 + 1) = ml s true 4 ++ [16] := by simp [ml, pn, HZ.out]
          have HM := Lib.hid hm
          clear hm
          go_wp2_with (at_builtin; refine wpList_append_own _ rfl _ _ 43 rfl w.heap.size 3 i0 (.int .i64 0) 1 8 Tryf.underlying43 hi2.out hz0'.out hz1'.out hz2'.out rfl (by decide) (.slice a (ml s true 4).length c) (ml s true 4).length ((ml s true 4).map (Value.int .i64)) rfl (HR.out.alloc _) ⟨wr.heap.size, 0, none⟩ 1 1 [.int .i64 16] rfl rfl (news_one (Bk.fresh _ _ _)) (by simp [Value.oneCell']) (by unfold maxLen; omega) (by omega) (by simp; omega) ?_; intro v2 w2 ho2 hg2 _; obtain ⟨a2, c2, rfl⟩ := own_slice ho2; have hB2 := below_app (HB.out.alloc (by omega) _) (by simp; omega) (HR.out.alloc _) hg2; have hK2 := (hbk2 HK.out hg2 (HR.out.alloc _)); have HO2 := Lib.hid ho2; have HB2 := Lib.hid hB2; have HK2 := Lib.hid hK2; clear ho2 hg2 hB2 hK2)
          go_roundw
          case rel => exact ⟨4 + 1, a2, c2, by omega, by go_num, by rw [HM.out]; simp, by rw [HM.out]; simpa using HO2.out, HK2.out, HB2.out⟩
          case measure => simp [intOf]
    · clear cA
      go_wp2
      go_ret
      exact ⟨a, c, rfl, HR.out, HB.out⟩
theorem model_any (s : Int) (w : World) : Calls Tryf.prog 16 #[.int .i64 s] w (RetM w s (bothB s)) := by
  unfold bothB
  cases h0 : tb s 0
  · exact model_a s h0 w
  · cases h3 : tb s 3
    · exact model_b s h0 h3 w
    · exact model_c s h0 h3 w
end Go.Proofs.YtimaobpcefgdkaaFmt
