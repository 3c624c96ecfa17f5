/- The walk of FnPosRecoveredSentinel. -/
import Derived.Test.YtleldhnilecklaaDoorLPosS
import Derived.ProofKit
namespace Go.Proofs.YtleldhnilecklaaDoor
open Go.RowKit
theorem gRec : Tryd.prog.globalNamed "mvdan.cc/sh/v3/syntax.recoveredPos" = some 0 := by kernel_rfl
theorem tRec : (Tryd.prog.globals[0]?).map (·.type) = some 25 := by kernel_rfl
def RecIs (W : World) : Prop := W.cell? ⟨0, 0, none⟩ = some (.int .u32 4294967285) ∧ W.cell? ⟨0, 1, none⟩ = some (.int .u32 0)
set_option maxRecDepth 100000 in
theorem rec_of_laid {W : World} {rest : List (String × DataW Unit)} (h : laidMet Tryd.prog (("mvdan.cc/sh/v3/syntax.recoveredPos", Rows.laid_mvdan_cc_sh_v3_syntax_recoveredPos) :: rest) W) : RecIs W := by
  obtain ⟨ps, ⟨g0, t0, cs0, f0, p0, q0, hg0, ht0, hv0, hd0, _⟩, _, _⟩ := h
  obtain rfl := Option.some.inj (gRec.symm.trans hg0)
  obtain rfl := Option.some.inj (tRec.symm.trans ht0)
  obtain ⟨xs, m, _, hx, hlen, hxl, hf⟩ := DataW.trod_struct Tryd.underlying25 hd0
  have hC : Tryd.prog.cellsOf 25 = 2 := by kernel_rfl
  have h1 : Tryd.prog.cellsOf 23 = 1 := by kernel_rfl
  rw [hC] at hlen
  have v0 := World.var?_cell hg0 hv0 0
  have v1 := World.var?_cell hg0 hv0 1
  obtain ⟨cl⟩ := cs0
  match cl, hlen, xs, hxl with
  | [c0, c1], _, [x0, x1], _ =>
    have g0 : DataW.trod _ Tryd.prog W 0 _ _ m 23 (([c0, c1].drop 0).take (Tryd.prog.cellsOf 23)) = some x0 := hf 0 _ rfl
    have g1 : DataW.trod _ Tryd.prog W 0 _ _ m 23 (([c0, c1].drop 1).take (Tryd.prog.cellsOf 23)) = some x1 := hf 1 _ rfl
    rw [h1] at g0 g1
    obtain ⟨k0, e0, r0, _⟩ := DataW.trod_int Tryd.underlying23 g0
    obtain ⟨k1, e1, r1, _⟩ := DataW.trod_int Tryd.underlying23 g1
    simp at e0 e1
    simp [Rows.laid_mvdan_cc_sh_v3_syntax_recoveredPos, r0, r1] at hx
    obtain ⟨⟨hk0, hk1⟩, _⟩ := hx
    subst e0 e1 hk0 hk1
    exact ⟨by simpa using v0, by simpa using v1⟩
theorem RecIs.keep {W W1 : World} (h : RecIs W) (hb : Below W.heap.size W W1) : RecIs W1 := ⟨keepc hb h.1, keepc hb h.2⟩
theorem zzRec_any (w : World) (h : RecIs w) : Calls Tryd.prog 20 #[] w fun e w' => e = .returned (P2 4294967285 0) ∧ Below w.heap.size w w' := by
  have c0 := h.1
  have c1 := h.2
  have lt := World.block_lt_of_cell? _ _ c0
  go_enter Tryd.func20, Tryd.ntmps20
  go_wp2
  go_returns
  exact ⟨rfl, by go_grown⟩
theorem isRec_any (w : World) (h : RecIs w) : Calls Tryd.prog 21 #[P2 4294967285 0] w fun e w' => e = .returned (.bool true) ∧ Below w.heap.size w w' := by
  have c0 := h.1
  have c1 := h.2
  have lt := World.block_lt_of_cell? _ _ c0
  go_enter Tryd.func21, Tryd.ntmps21
  go_wp2
  go_ret
  exact ⟨rfl, by go_grown⟩
/-- What the law's end leans on: the two positions' boxes, the tables, what lies below. -/
def FinR (w : World) (a b : Nat) (o lc : Int) (W : World) : Prop :=
  Bk W a 25 #[.int .u32 4294967285, .int .u32 0] ∧ Bk W b 25 #[.int .u32 o, .int .u32 lc] ∧ RecIs W ∧ PowIs W ∧ Below w.heap.size w W
theorem FinR.keep {w W W1 : World} {a b : Nat} {o lc : Int} (h : FinR w a b o lc W) (hb : Below W.heap.size W W1) : FinR w a b o lc W1 :=
  ⟨h.1.keep hb, h.2.1.keep hb, h.2.2.1.keep hb, tabIs_below h.2.2.2.1 hb, bmore h.2.2.2.2 hb⟩
set_option maxHeartbeats 2000000 in
set_option maxRecDepth 100000 in
theorem walkFnPosRecoveredSentinel (a0 : Int) (a1 : Int) (a2 : Int) (w : World) (w0 : (Lit.int .u64 a0).wf = true) (w1 : (Lit.int .u64 a1).wf = true) (w2 : (Lit.int .u64 a2).wf = true) (hL : laidMetH Tryd.prog Rows.fnPosRecoveredSentinelRow.laid w) :
    Calls Tryd.prog 9 #[.int .u64 a0, .int .u64 a1, .int .u64 a2] w fun e w' => e = .returned (.bool true) ∧ Below w.heap.size w w' := by
  have b0 := bounds_u64 w0
  have b1 := bounds_u64 w1
  have b2 := bounds_u64 w2
  rw [MakeChecks.laidMetH_plain _ _ _ (by kernel_rfl)] at hL
  have ht := pow_of_laid hL
  have hr := rec_of_laid hL.tail.tail.tail
  clear w0 w1 w2 hL
  have hbo := npO_bd a0 (by omega)
  obtain ⟨o, ho⟩ : ∃ o, o = npO a0 := ⟨_, rfl⟩
  obtain ⟨lc, hlc⟩ : ∃ lc, lc = npL a1 a2 := ⟨_, rfl⟩
  rw [← ho] at hbo
  have HO := Lib.hid ho
  have HLC := Lib.hid hlc
  have HT := Lib.hid ht
  have HR := Lib.hid hr
  clear ho hlc ht hr
  have q1 : vld 4294967285 0 = false := vld_no (.inr rfl)
  have q2 : offv 4294967285 = 0 := by decide
  have q3 : aft 4294967285 0 o = false := by simp [aft, q1]
  have q4 : aft o lc 4294967285 = false := by
    have : ¬ (4294967285 : Int) < o := by omega
    simp [aft, this]
  have Q1 := Lib.hid q1
  have Q2 := Lib.hid q2
  have Q3 := Lib.hid q3
  have Q4 := Lib.hid q4
  clear q1 q2 q3 q4
  have ne1 : (o == 4294967285) = false := by simp; omega
  have ne2 : (o != 4294967285) = true := by simp; omega
  go_enter Tryd.func9, Tryd.ntmps9
  go_wp2_with fail
  refine (zzRec_any _ HR.out).mono ?_
  rintro e v1 ⟨rfl, hb⟩
  have HR1 := Lib.hid (HR.out.keep hb)
  have HT1 := Lib.hid (tabIs_below HT.out hb)
  have B1 := Lib.hid hb
  clear HR HT hb
  go_wp2_with fail
  refine (newPos_any _ _ _ _ (by omega) (by omega) (by omega) (by omega) (by omega) (by omega)).mono ?_
  rintro e v2 ⟨rfl, hb⟩
  rw [← HO.out, ← HLC.out]
  have hF : FinR w v1.heap.size v2.heap.size o lc (v2.alloc (.cells #[.int .u32 o, .int .u32 lc] 25)) := by
    have ha := (Below.refl _ v1).alloc (Nat.le_refl _) (.cells #[.int .u32 4294967285, .int .u32 0] 25)
    have ha2 := (Below.refl _ v2).alloc (Nat.le_refl _) (.cells #[.int .u32 o, .int .u32 lc] 25)
    exact ⟨((Bk.fresh v1 25 _).keep hb).keep ha2, Bk.fresh _ _ _, ((HR1.out.keep ha).keep hb).keep ha2, tabIs_below (tabIs_below (tabIs_below HT1.out ha) hb) ha2, bmore (bmore (bmore B1.out ha) hb) ha2⟩
  have HF := Lib.hid hF
  have kR2 := (Bk.fresh v1 25 #[.int .u32 4294967285, .int .u32 0]).keep hb
  have cR2 := kR2.cells
  have lR2 := kR2.lt
  clear hF HR1 HT1 B1 hb kR2
  go_wp2_with fail
  refine (isRec_any _ HF.out.2.2.1).mono ?_
  rintro e v3 ⟨rfl, hb⟩
  have hF := HF.out.keep hb
  clear HF hb cR2 lR2
  have HF := Lib.hid hF
  clear hF
  have cR := HF.out.1.cells
  have cP := HF.out.2.1.cells
  have lR := HF.out.1.lt
  have lP := HF.out.2.1.lt
  go_wp2_with fail
  refine (isValid_any _ _ _).mono ?_
  rintro e v4 ⟨rfl, hb⟩
  rw [Q1.out]
  have hF := HF.out.keep hb
  clear HF hb cR cP lR lP
  have HF := Lib.hid hF
  clear hF
  have cR := HF.out.1.cells
  have cP := HF.out.2.1.cells
  have lR := HF.out.1.lt
  have lP := HF.out.2.1.lt
  go_wp2_with fail
  refine (offset_any _ _ _ (by omega) (by omega)).mono ?_
  rintro e v5 ⟨rfl, hb⟩
  rw [Q2.out]
  have hF := HF.out.keep hb
  clear HF hb cR cP lR lP
  have HF := Lib.hid hF
  clear hF
  have cR := HF.out.1.cells
  have cP := HF.out.2.1.cells
  have lR := HF.out.1.lt
  have lP := HF.out.2.1.lt
  go_wp2_with fail
  refine (posString_any 4294967285 0 0 0 _ HF.out.2.2.2.1 (by omega) (by omega) (by decide) (by decide)).mono ?_
  rintro e v6 ⟨rfl, hb⟩
  rw [show posText 0 0 = [63, 58, 63] from rfl]
  have hF := HF.out.keep hb
  clear HF hb cR cP lR lP
  have HF := Lib.hid hF
  clear hF
  have cR := HF.out.1.cells
  have cP := HF.out.2.1.cells
  have lR := HF.out.1.lt
  have lP := HF.out.2.1.lt
  go_wp2_with fail
  refine (after_any _ _ _ _ _).mono ?_
  rintro e v7 ⟨rfl, hb⟩
  rw [Q3.out]
  have hF := HF.out.keep hb
  clear HF hb cR cP lR lP
  have HF := Lib.hid hF
  clear hF
  have cR := HF.out.1.cells
  have cP := HF.out.2.1.cells
  have lR := HF.out.1.lt
  have lP := HF.out.2.1.lt
  go_wp2_with fail
  refine (after_any _ _ _ _ _).mono ?_
  rintro e v8 ⟨rfl, hb⟩
  rw [Q4.out]
  have hF := HF.out.keep hb
  clear HF hb cR cP lR lP
  have HF := Lib.hid hF
  clear hF
  have cR := HF.out.1.cells
  have cP := HF.out.2.1.cells
  have lR := HF.out.1.lt
  have lP := HF.out.2.1.lt
  go_wp2
  go_ret
  exact ⟨rfl, HF.out.2.2.2.2⟩
end Go.Proofs.YtleldhnilecklaaDoor
