/- simplifier.unquoteParams and its shim: when it unquotes, and when it leaves all as it is. -/
import Derived.Test.YtnjdffnbkjjmeaaUP
namespace Go.Proofs.Ytnjdffnbkjjmeaa
open Go.RowKit
theorem uq_tw (a : Option Addr) (w : World) : (Instr.typeAssert (.iface 44 (.pointer a)) 51 44 true).run Try.prog w = .ok (.tuple #[.pointer a, .bool true]) w := by kernel_rfl
theorem uq_dd (a : Option Addr) (w : World) : (Instr.typeAssert (.iface 123 (.pointer a)) 135 123 true).run Try.prog w = .ok (.tuple #[.pointer a, .bool true]) w := by kernel_rfl
theorem uq_dl (a : Option Addr) (w : World) : (Instr.typeAssert (.iface 64 (.pointer a)) 135 123 true).run Try.prog w = .ok (.tuple #[.pointer none, .bool false]) w := by kernel_rfl
theorem uq_dp (a : Option Addr) (w : World) : (Instr.typeAssert (.iface 122 (.pointer a)) 135 123 true).run Try.prog w = .ok (.tuple #[.pointer none, .bool false]) w := by kernel_rfl
theorem uq_pp (a : Option Addr) (w : World) : (Instr.typeAssert (.iface 122 (.pointer a)) 135 122 true).run Try.prog w = .ok (.tuple #[.pointer a, .bool true]) w := by kernel_rfl
theorem uq_pl (a : Option Addr) (w : World) : (Instr.typeAssert (.iface 64 (.pointer a)) 135 122 true).run Try.prog w = .ok (.tuple #[.pointer none, .bool false]) w := by kernel_rfl
theorem uq_pc (a : Option Addr) (w : World) : (Instr.typeAssert (.iface 203 (.pointer a)) 135 122 true).run Try.prog w = .ok (.tuple #[.pointer none, .bool false]) w := by kernel_rfl
def NotDq (v : Value) : Prop := ∀ w, (Instr.typeAssert v 135 123 true).run Try.prog w = .ok (.tuple #[.pointer none, .bool false]) w
def NotPe (v : Value) : Prop := ∀ w, (Instr.typeAssert v 135 122 true).run Try.prog w = .ok (.tuple #[.pointer none, .bool false]) w
def RetX (x : Value) (w : World) (e : Ending) (w' : World) : Prop := e = .returned x ∧ Below w.heap.size w w'
set_option maxHeartbeats 1000000 in
theorem unq_no1 (sb wd n c : Nat) (A : Option Addr) (w : World) (hw : w.cell? ⟨wd, 0, none⟩ = some (.slice A n c)) (hn : n ≠ 1) (_hb : n ≤ 65536) :
    Calls Try.prog 82 #[.pointer (some ⟨sb, 0, none⟩), .iface 44 (.pointer (some ⟨wd, 0, none⟩))] w (RetX (.iface 44 (.pointer (some ⟨wd, 0, none⟩))) w) := by
  have t1 := uq_tw
  have hn' : ((n : Int) == 1) = false := by simp; omega
  have hn2 : ((n : Int) != 1) = true := by simp; omega
  clear hn
  go_enter Try.func82, Try.ntmps82
  go_wp2
  go_ret
  exact ⟨rfl, by go_grown⟩
set_option maxHeartbeats 1000000 in
theorem unq_no2 (sb wd c : Nat) (x : Addr) (v : Value) (w : World) (hw : w.cell? ⟨wd, 0, none⟩ = some (.slice (some x) 1 c)) (hv : w.cell? x = some v) (ht : NotDq v) :
    Calls Try.prog 82 #[.pointer (some ⟨sb, 0, none⟩), .iface 44 (.pointer (some ⟨wd, 0, none⟩))] w (RetX (.iface 44 (.pointer (some ⟨wd, 0, none⟩))) w) := by
  have t1 := uq_tw
  unfold NotDq at ht
  go_enter Try.func82, Try.ntmps82
  go_wp2
  go_ret
  exact ⟨rfl, by go_grown⟩
set_option maxHeartbeats 1000000 in
theorem unq_no3 (sb wd c dq m c2 : Nat) (x : Addr) (B : Option Addr) (w : World) (hw : w.cell? ⟨wd, 0, none⟩ = some (.slice (some x) 1 c)) (hv : w.cell? x = some (.iface 123 (.pointer (some ⟨dq, 0, none⟩)))) (hd : w.cell? ⟨dq, 5, none⟩ = some (.slice B m c2)) (hm : m ≠ 1) (_hb : m ≤ 65536) :
    Calls Try.prog 82 #[.pointer (some ⟨sb, 0, none⟩), .iface 44 (.pointer (some ⟨wd, 0, none⟩))] w (RetX (.iface 44 (.pointer (some ⟨wd, 0, none⟩))) w) := by
  have t1 := uq_tw
  have t2 := uq_dd
  have hn' : ((m : Int) == 1) = false := by simp; omega
  have hn2 : ((m : Int) != 1) = true := by simp; omega
  clear hm
  go_enter Try.func82, Try.ntmps82
  go_wp2
  go_ret
  exact ⟨rfl, by go_grown⟩
set_option maxHeartbeats 1000000 in
theorem unq_no4 (sb wd c dq c2 : Nat) (x y : Addr) (v : Value) (w : World) (hw : w.cell? ⟨wd, 0, none⟩ = some (.slice (some x) 1 c)) (hv : w.cell? x = some (.iface 123 (.pointer (some ⟨dq, 0, none⟩)))) (hd : w.cell? ⟨dq, 5, none⟩ = some (.slice (some y) 1 c2)) (hv2 : w.cell? y = some v) (ht : NotPe v) :
    Calls Try.prog 82 #[.pointer (some ⟨sb, 0, none⟩), .iface 44 (.pointer (some ⟨wd, 0, none⟩))] w (RetX (.iface 44 (.pointer (some ⟨wd, 0, none⟩))) w) := by
  have t1 := uq_tw
  have t2 := uq_dd
  unfold NotPe at ht
  go_enter Try.func82, Try.ntmps82
  go_wp2
  go_ret
  exact ⟨rfl, by go_grown⟩
/-- Nothing but the blocks a and b is turned. -/
def Grown2 (W W1 : World) (a b : Nat) : Prop := W1.os = W.os ∧ W1.tape = W.tape ∧ W1.output = W.output ∧ W.heap.size ≤ W1.heap.size ∧ ∀ i, i < W.heap.size → i ≠ a → i ≠ b → W1.heap[i]? = W.heap[i]?
set_option maxHeartbeats 1000000 in
theorem unq_yes (sb wd c dq c2 : Nat) (x y : Addr) (pv : Option Addr) (mp : Value) (w : World) (hs : Bk w sb 167 #[.bool false, mp]) (hw : Bk w wd 129 #[.slice (some x) 1 c]) (hv : w.cell? x = some (.iface 123 (.pointer (some ⟨dq, 0, none⟩)))) (hd : w.cell? ⟨dq, 5, none⟩ = some (.slice (some y) 1 c2)) (hv2 : w.cell? y = some (.iface 122 (.pointer pv)))
    (_h1 : dq ≠ sb) (h2 : wd ≠ sb) (h3 : dq ≠ wd) :
    Calls Try.prog 82 #[.pointer (some ⟨sb, 0, none⟩), .iface 44 (.pointer (some ⟨wd, 0, none⟩))] w (fun e w' => e = .returned (.iface 44 (.pointer (some ⟨wd, 0, none⟩))) ∧ Bk w' sb 167 #[.bool true, mp] ∧ Bk w' wd 129 #[.slice (some y) 1 c2] ∧ Grown2 w w' sb wd) := by
  have t1 := uq_tw
  have t2 := uq_dd
  have t3 := uq_pp
  have cw := hw.cells
  have fw := hw.frz
  have lw := hw.lt
  have cs := hs.cells
  have fs := hs.frz
  have ls := hs.lt
  have h2' : ¬ sb = wd := fun h => h2 h.symm
  have k1 := (hs.put 0 (.bool true)).far (p := ⟨wd, 0, none⟩) h2' (.slice (some y) 1 c2)
  have k2 := (hw.far (p := ⟨sb, 0, none⟩) h2 (.bool true)).put 0 (.slice (some y) 1 c2)
  have k3 : Grown2 w ((w.setCell ⟨sb, 0, none⟩ (.bool true)).setCell ⟨wd, 0, none⟩ (.slice (some y) 1 c2)) sb wd := by
    refine ⟨rfl, rfl, rfl, by simp [World.setCell], fun i hi n1 n2 => ?_⟩
    rw [Below.heap_setCell _ _ _ i n2, Below.heap_setCell _ _ _ i n1]
  have K1 := Lib.hid k1
  have K2 := Lib.hid k2
  have K3 := Lib.hid k3
  clear k1 k2 k3 hs hw h2'
  go_enter Try.func82, Try.ntmps82
  go_wp2
  go_ret
  exact ⟨rfl, K1.out, K2.out, K3.out⟩
set_option maxHeartbeats 1000000 in
theorem ZZunq_no (x : Value) (w : World) (h : ∀ W, Below w.heap.size w W → Bk W w.heap.size 167 #[.bool false, .map none] → Calls Try.prog 82 #[.pointer (some ⟨w.heap.size, 0, none⟩), x] W (RetX x W)) :
    Calls Try.prog 58 #[x] w (fun e w' => e = .returned (.tuple #[x, .bool false]) ∧ Below w.heap.size w w') := by
  have H := Lib.hid h
  clear h
  go_enter Try.func58, Try.ntmps58
  go_wp2_with fail
  refine (H.out _ (by go_grown) (Bk.fresh _ _ _)).mono ?_
  rintro e w1 ⟨rfl, hb⟩
  have hB := bmore (w := w) (by go_grown) hb
  have ks := (Bk.fresh w 167 #[.bool false, .map none]).keep hb
  have cs := ks.cells
  clear hb ks
  go_wp2
  go_quiet (fail)
  go_wp2
  go_ret2
  exact ⟨rfl, bdrewN hB _⟩
set_option maxHeartbeats 1000000 in
theorem ZZunq_yes (wd c dq c2 : Nat) (x y : Addr) (pv : Option Addr) (w : World) (hw : Bk w wd 129 #[.slice (some x) 1 c]) (hv : w.cell? x = some (.iface 123 (.pointer (some ⟨dq, 0, none⟩)))) (hd : w.cell? ⟨dq, 5, none⟩ = some (.slice (some y) 1 c2)) (hv2 : w.cell? y = some (.iface 122 (.pointer pv)))
    (h3 : dq ≠ wd) :
    Calls Try.prog 58 #[.iface 44 (.pointer (some ⟨wd, 0, none⟩))] w (fun e w' => e = .returned (.tuple #[.iface 44 (.pointer (some ⟨wd, 0, none⟩)), .bool true]) ∧ Bk w' wd 129 #[.slice (some y) 1 c2] ∧ w.grownBy w' (some wd)) := by
  have lw := hw.lt
  have ld := World.block_lt_of_cell? _ _ hd
  have HW := Lib.hid hw
  have HV := Lib.hid hv
  have HD := Lib.hid hd
  have HV2 := Lib.hid hv2
  clear hw hv hd hv2
  go_enter Try.func58, Try.ntmps58
  go_wp2_with fail
  have hA : Below w.heap.size w (w.alloc (.cells #[.bool false, .map none] 167)) := by go_grown
  refine (unq_yes w.heap.size wd c dq c2 x y pv (.map none) _ (Bk.fresh _ _ _) (HW.out.keep hA) (keepc hA HV.out) (keepc hA HD.out) (keepc hA HV2.out) (by omega) (by omega) h3).mono ?_
  rintro e w1 ⟨rfl, ks, kw, hg⟩
  have HK := Lib.hid kw
  have HG := Lib.hid hg
  have cs := ks.cells
  have HA := Lib.hid hA
  clear ks kw hg hA
  go_wp2
  go_quiet (fail)
  go_wp2
  go_ret2
  refine ⟨rfl, HK.out, ?_⟩
  obtain ⟨g1, g2, g3, g4, g5⟩ := HG.out
  have hA := HA.out
  refine ⟨g1.trans hA.os, g2.trans hA.tape, g3.trans hA.output, Nat.le_trans hA.size g4, fun i hi hne => ?_⟩
  exact (g5 i (by simp; omega) (by omega) (fun h => hne (by rw [h]))).trans (hA.block i hi)
end Go.Proofs.Ytnjdffnbkjjmeaa
