/- ensureNoNested and the reader of the error: their contracts. -/
import Derived.Test.YtimaobpcefgdkaaFmtNewP
import Derived.RegionTactic
import Derived.BigRegion
import Derived.ChangeAlike
namespace Go.Proofs.YtimaobpcefgdkaaFmt
open Go.RowKit
theorem bp_gen {P : Program} {f : Func} {R : Ending → World → Prop} {e : Exit} {a : Act} {W : World} {S : World → Prop} (h : S W) (k : ∀ W', S W' → bodyPost P f R e a W') : bodyPost P f R e a W := k W h
theorem enPlain : PlainF ⟨#[101, 120, 112, 97, 110, 115, 105, 111, 110, 115, 32, 110, 111, 116, 32, 97, 108, 108, 111, 119, 101, 100, 32, 105, 110, 32, 104, 101, 114, 101, 100, 111, 99, 32, 119, 111, 114, 100, 115]⟩ := by unfold PlainF; kernel_rfl
set_option maxRecDepth 100000 in
theorem ens_no {w : World} {b fp : Nat} {nm : ByteArray} {er : Value} {tk : Int} {lg : Int} (h : PP w b fp nm er tk false lg) (o l : Int) :
    Calls Tryf.prog 17 #[.pointer (some ⟨b, 0, none⟩), P2 o l] w fun e w' => e = .returned (.tuple #[]) ∧ Below w.heap.size w w' := by
  have c24 := h.c24
  have lb := h.lt
  clear h
  go_enter Tryf.func17, Tryf.ntmps17
  go_wp2
  go_end0
  exact ⟨rfl, by go_grown⟩
set_option maxRecDepth 100000 in
theorem ens_first {w : World} {b fp : Nat} {nm : ByteArray} {lg : Int} (h : PP w b fp nm .nilIface 0 true lg) (o l : Int) :
    Calls Tryf.prog 17 #[.pointer (some ⟨b, 0, none⟩), P2 o l] w fun e w' => e = .returned (.tuple #[]) ∧ (∃ s : ByteArray, PP w' b fp nm (parseErr nm o l s) 1 true lg) ∧ w.grownBy w' (some b) := by
  have c24 := h.c24
  have lb := h.lt
  have H := Lib.hid h
  clear h
  go_enter Tryf.func17, Tryf.ntmps17
  go_wp2_with fail
  refine (posErr_first (H.out.alloc _) o l enPlain).mono ?_
  rintro e w' ⟨rfl, hP, hg⟩
  have HP := Lib.hid hP
  have HG := Lib.hid (grown_tr (World.grownBy_alloc _ _ _) hg)
  clear hP hg
  go_wp2_with fail
  go_end0
  exact ⟨rfl, HP.out, HG.out⟩
set_option maxRecDepth 100000 in
theorem ens_more {w : World} {b fp : Nat} {nm : ByteArray} {t : TypeId} {x : Value} {lg : Int} (h : PP w b fp nm (.iface t x) 1 true lg) (o l : Int) :
    Calls Tryf.prog 17 #[.pointer (some ⟨b, 0, none⟩), P2 o l] w fun e w' => e = .returned (.tuple #[]) ∧ Below w.heap.size w w' := by
  have c24 := h.c24
  have lb := h.lt
  have H := Lib.hid h
  clear h
  go_enter Tryf.func17, Tryf.ntmps17
  go_wp2_with fail
  refine (posErr_more (H.out.alloc _) o l enPlain).mono ?_
  rintro e w' ⟨rfl, hb⟩
  have HB := Lib.hid (((Below.refl w.heap.size w).alloc (Nat.le_refl _) _).trans (hb.mono (by simp)))
  clear hb
  go_wp2_with fail
  go_end0
  exact ⟨rfl, HB.out⟩
/-- The shims over it. -/
theorem zzEns {w : World} {b : Nat} {o l : Int} {R : World → World → Prop} (h : ∀ W, Below w.heap.size w W → w.heap.size ≤ W.heap.size → Calls Tryf.prog 17 #[.pointer (some ⟨b, 0, none⟩), P2 o l] W fun e w' => e = .returned (.tuple #[]) ∧ R W w') :
    Calls Tryf.prog 8 #[.pointer (some ⟨b, 0, none⟩), P2 o l] w fun e w' => e = .returned (.tuple #[]) ∧ ∃ W, Below w.heap.size w W ∧ R W w' := by
  have H := Lib.hid h
  clear h
  go_enter Tryf.func8, Tryf.ntmps8
  go_wp2_with fail
  have HB := Lib.hid ((Below.refl w.heap.size w).alloc (Nat.le_refl _) (.cells #[.int .u32 o, .int .u32 l] 28))
  refine (H.out _ HB.out (by simp)).mono ?_
  rintro e w' ⟨rfl, hR⟩
  have HR := Lib.hid hR
  clear hR
  go_wp2_with fail
  go_end0
  exact ⟨rfl, _, HB.out, HR.out⟩
theorem tPE (x : Array Value) (w : World) : (Instr.typeAssert (.iface 68 (.agg x)) 55 68 true).run Tryf.prog w = .ok (.tuple #[.agg x, .bool true]) w := by kernel_rfl
set_option maxRecDepth 100000 in
theorem errInfo_none {w : World} {b fp : Nat} {nm : ByteArray} {tk : Int} {fb : Bool} {lg : Int} (h : PP w b fp nm .nilIface tk fb lg) :
    Calls Tryf.prog 9 #[.pointer (some ⟨b, 0, none⟩)] w fun e w' => e = .returned (.tuple #[.bool false, .bool false, .string ByteArray.empty, P2 0 0, .bool false]) ∧ Below w.heap.size w w' := by
  have c7 := h.c7
  have lb := h.lt
  clear h
  go_enter Tryf.func9, Tryf.ntmps9
  go_wp2
  refine bodyPost_ret (v := .tuple #[.bool false, .bool false, .string ByteArray.empty, P2 0 0, .bool false]) ?_ rfl ⟨rfl, by go_grown⟩
  simp [results, Tryf.results9, go_sem]
  try rfl
set_option maxHeartbeats 1000000 in
set_option maxRecDepth 100000 in
theorem errInfo_some {w : World} {b fp : Nat} {nm s : ByteArray} {o l tk : Int} {fb : Bool} {lg : Int} (h : PP w b fp nm (parseErr nm o l s) tk fb lg) :
    Calls Tryf.prog 9 #[.pointer (some ⟨b, 0, none⟩)] w fun e w' => e = .returned (.tuple #[.bool true, .bool true, .string nm, P2 o l, .bool false]) ∧ Below w.heap.size w w' := by
  have c7 := h.c7
  have lb := h.lt
  have ta := tPE
  clear h
  go_enter Tryf.func9, Tryf.ntmps9
  go_wp2
  refine wp_gen (S := fun W => Bk W w.heap.size 28 #[.int .u32 0, .int .u32 0] ∧ Bk W (w.heap.size + 1) 68 #[.string nm, .int .u32 o, .int .u32 l, .string s, .bool false] ∧ Below w.heap.size w W) ⟨(Bk.fresh w _ _).alloc _, Bk.newAt (by simp), by go_grown⟩ ?_
  clear c7 ta
  rintro W ⟨k1, k2, hb⟩
  have p0 : W.cell? ⟨w.heap.size, 0, none⟩ = some (.int .u32 0) := by rw [k1.cells]; rfl
  have p1 : W.cell? ⟨w.heap.size, 1, none⟩ = some (.int .u32 0) := by rw [k1.cells]; rfl
  have f0 := k1.frz
  have q0 : W.cell? ⟨w.heap.size + 1, 0, none⟩ = some (.string nm) := by rw [k2.cells]; rfl
  have q1 : W.cell? ⟨w.heap.size + 1, 1, none⟩ = some (.int .u32 o) := by rw [k2.cells]; rfl
  have q2 : W.cell? ⟨w.heap.size + 1, 2, none⟩ = some (.int .u32 l) := by rw [k2.cells]; rfl
  have q4 : W.cell? ⟨w.heap.size + 1, 4, none⟩ = some (.bool false) := by rw [k2.cells]; rfl
  have l1 := k1.lt
  have l2 := k2.lt
  have K1 := Lib.hid k1
  have HB := Lib.hid hb
  clear k1 k2 hb
  go_region
  all_goals
    go_wp2
    refine bp_gen (S := fun W' => Bk W' w.heap.size 28 #[.int .u32 o, .int .u32 l] ∧ Below w.heap.size w W') ⟨(K1.out.put 0 (.int .u32 o)).put 1 (.int .u32 l), ((HB.out.setCell (p := ⟨w.heap.size, 0, none⟩) (by simp) _).setCell (p := ⟨w.heap.size, 1, none⟩) (by simp) _).drew⟩ ?_
    clear p0 p1 f0 q0 q1 q2 q4 l1 l2
    rintro W' ⟨kS, hP⟩
    have cW := kS.cells
    refine bodyPost_ret (v := .tuple #[.bool true, .bool true, .string nm, P2 o l, .bool false]) (by simp [results, Tryf.results9, go_sem, cW]) rfl ⟨rfl, hP⟩
end Go.Proofs.YtimaobpcefgdkaaFmt
