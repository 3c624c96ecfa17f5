/- inlineSimpleParams: the ways behind a valid name, and the shim. -/
import Derived.Test.YtnjdffnbkjjmeaaIS
namespace Go.Proofs.Ytnjdffnbkjjmeaa
open Go.RowKit Go.PlainAid
set_option maxHeartbeats 1000000 in
theorem isp_no5 (sb wd c pe lt : Nat) (cs : Array Value) (x : Addr) (s : ByteArray) (w : World) (hw : w.cell? ⟨wd, 0, none⟩ = some (.slice (some x) 1 c)) (hv : w.cell? x = some (.iface 122 (.pointer (some ⟨pe, 0, none⟩)))) (kp : Bk w pe 142 cs) (h13 : cs[13]? = some (.pointer (some ⟨lt, 0, none⟩))) (hl : w.cell? ⟨lt, 4, none⟩ = some (.string s)) (hs : s.size ≤ 1048576) (hb : vnB s.data.toList = true) (hS : SimpleIs cs false) :
    Calls Try.prog 86 #[.pointer (some ⟨sb, 0, none⟩), .iface 44 (.pointer (some ⟨wd, 0, none⟩))] w (RetX (.iface 44 (.pointer (some ⟨wd, 0, none⟩))) w) := by
  have t1 := is_tw
  have t2 := uq_pp
  have HB := Lib.hid hb
  have hp : w.cell? ⟨pe, 13, none⟩ = some (.pointer (some ⟨lt, 0, none⟩)) := by rw [kp.cells, h13]
  have KP := Lib.hid kp
  have HS := Lib.hid hS
  clear hb kp h13 hS
  go_enter Try.func86, Try.ntmps86
  go_wp2_with (first | (go_at_call 87; refine (validName_any _ _ hs).mono ?_; rintro e w1 ⟨rfl, hb⟩; rw [HB.out]) | (go_at_call 88; refine (HS.out pe _ (KP.out.keep (by assumption))).mono ?_; rintro e w' ⟨rfl, rfl⟩))
  go_ret
  exact ⟨rfl, by assumption⟩
def IspYes (w : World) (sb lt : Nat) (mp : Value) (e : Ending) (w' : World) : Prop :=
  ∃ nw g : Nat, e = .returned (.iface 44 (.pointer (some ⟨nw, 0, none⟩))) ∧ Bk w' sb 167 #[.bool true, mp] ∧ Bk w' nw 129 #[.slice (some ⟨g, 0, none⟩) 1 1] ∧ w'.cell? ⟨g, 0, none⟩ = some (.iface 64 (.pointer (some ⟨lt, 0, none⟩))) ∧ w.heap.size ≤ nw ∧ w.grownBy w' (some sb)
theorem isp_shape {w w1 : World} {sb lt : Nat} {mp : Value} (hb : Below w.heap.size w w1) (ks : Bk w1 sb 167 #[.bool false, mp]) :
    IspYes w sb lt mp (.returned (.iface 44 (.pointer (some ⟨w1.heap.size + 1, 0, none⟩)))) (((w1.setCell ⟨sb, 0, none⟩ (.bool true)).alloc (.cells #[.iface 64 (.pointer (some ⟨lt, 0, none⟩))] 135)).alloc (.cells #[.slice (some ⟨w1.heap.size, 0, none⟩) 1 1] 129)) := by
  have e : (w1.setCell ⟨sb, 0, none⟩ (.bool true)).heap.size = w1.heap.size := size_setCell _ _ _
  refine ⟨_, _, rfl, ((ks.put 0 _).alloc _).alloc _, Bk.newAt (by rw [size_alloc, e]), ?_, ?_, ?_⟩
  · have k := (Bk.newAt (t := 135) (cs := #[.iface 64 (.pointer (some ⟨lt, 0, none⟩))]) e).alloc (.cells #[.slice (some ⟨w1.heap.size, 0, none⟩) 1 1] 129)
    rw [k.cells]; rfl
  · have := hb.size; omega
  · refine ⟨hb.os, hb.tape, hb.output, ?_, fun i hi hne => ?_⟩
    · rw [size_alloc, size_alloc, e]; have := hb.size; omega
    · have h1 := Below.heap_alloc ((w1.setCell ⟨sb, 0, none⟩ (.bool true)).alloc (.cells #[.iface 64 (.pointer (some ⟨lt, 0, none⟩))] 135)) (.cells #[.slice (some ⟨w1.heap.size, 0, none⟩) 1 1] 129) i (by rw [size_alloc, e]; have := hb.size; omega)
      have h2 := Below.heap_alloc (w1.setCell ⟨sb, 0, none⟩ (.bool true)) (.cells #[.iface 64 (.pointer (some ⟨lt, 0, none⟩))] 135) i (by rw [e]; have := hb.size; omega)
      have h3 := Below.heap_setCell w1 ⟨sb, 0, none⟩ (.bool true) i (fun h => hne (by rw [h]))
      exact h1.trans (h2.trans (h3.trans (hb.block i hi)))
set_option maxHeartbeats 1000000 in
theorem isp_yes (sb wd c pe lt : Nat) (cs : Array Value) (mp : Value) (x : Addr) (s : ByteArray) (w : World) (ks : Bk w sb 167 #[.bool false, mp]) (hw : w.cell? ⟨wd, 0, none⟩ = some (.slice (some x) 1 c)) (hv : w.cell? x = some (.iface 122 (.pointer (some ⟨pe, 0, none⟩)))) (kp : Bk w pe 142 cs) (h13 : cs[13]? = some (.pointer (some ⟨lt, 0, none⟩))) (hl : w.cell? ⟨lt, 4, none⟩ = some (.string s)) (hs : s.size ≤ 1048576) (hb : vnB s.data.toList = true) (hS : SimpleIs cs true) :
    Calls Try.prog 86 #[.pointer (some ⟨sb, 0, none⟩), .iface 44 (.pointer (some ⟨wd, 0, none⟩))] w (IspYes w sb lt mp) := by
  have t1 := is_tw
  have t2 := uq_pp
  have HB := Lib.hid hb
  have hp : w.cell? ⟨pe, 13, none⟩ = some (.pointer (some ⟨lt, 0, none⟩)) := by rw [kp.cells, h13]
  have KP := Lib.hid kp
  have HS := Lib.hid hS
  have KS := Lib.hid ks
  clear hb kp h13 hS ks
  go_enter Try.func86, Try.ntmps86
  go_wp2_with (go_at_call 87; refine (validName_any _ _ hs).mono ?_; rintro e w1 ⟨rfl, hb⟩; rw [HB.out])
  refine (HS.out pe _ (KP.out.keep (by assumption))).mono ?_
  rintro e w' ⟨rfl, rfl⟩
  have hb : Below w.heap.size w w1 := by assumption
  have hp1 := keepc hb hp
  have hsh := isp_shape (lt := lt) hb (KS.out.keep hb)
  have ks1 := KS.out.keep hb
  have cs1 := ks1.cells
  have fs1 := ks1.frz
  have ls1 := ks1.lt
  have HH := Lib.hid hsh
  clear hsh ks1 hp hw hv hl hb
  go_wp2
  go_ret
  exact HH.out
theorem ZZisp_no (x : Value) (w : World) (h : ∀ W, Below w.heap.size w W → Bk W w.heap.size 167 #[.bool false, .map none] → Calls Try.prog 86 #[.pointer (some ⟨w.heap.size, 0, none⟩), x] W (RetX x W)) :
    Calls Try.prog 70 #[x] w (fun e w' => e = .returned (.tuple #[x, .bool false]) ∧ Below w.heap.size w w') := by
  have H := Lib.hid h
  clear h
  go_enter Try.func70, Try.ntmps70
  go_wp2_with fail
  refine (H.out _ (by go_grown) (Bk.fresh _ _ _)).mono ?_
  rintro e w1 ⟨rfl, hb⟩
  have hB := bmore (w := w) (by go_grown) hb
  have ks := (Bk.fresh w 167 #[.bool false, .map none]).keep hb
  have cs := ks.cells
  clear hb ks
  go_wp2
  go_quiet (fail)
  go_wp2
  go_ret2
  exact ⟨rfl, bdrewN hB _⟩
set_option maxHeartbeats 1000000 in
theorem ZZisp_yes (wd c pe lt : Nat) (cs : Array Value) (x : Addr) (s : ByteArray) (w : World) (hw : w.cell? ⟨wd, 0, none⟩ = some (.slice (some x) 1 c)) (hv : w.cell? x = some (.iface 122 (.pointer (some ⟨pe, 0, none⟩)))) (kp : Bk w pe 142 cs) (h13 : cs[13]? = some (.pointer (some ⟨lt, 0, none⟩))) (hl : w.cell? ⟨lt, 4, none⟩ = some (.string s)) (hs : s.size ≤ 1048576) (hb : vnB s.data.toList = true) (hS : SimpleIs cs true) :
    Calls Try.prog 70 #[.iface 44 (.pointer (some ⟨wd, 0, none⟩))] w (fun e w' => ∃ nw g : Nat, e = .returned (.tuple #[.iface 44 (.pointer (some ⟨nw, 0, none⟩)), .bool true]) ∧ Bk w' nw 129 #[.slice (some ⟨g, 0, none⟩) 1 1] ∧ w'.cell? ⟨g, 0, none⟩ = some (.iface 64 (.pointer (some ⟨lt, 0, none⟩))) ∧ w.heap.size ≤ nw ∧ Below w.heap.size w w') := by
  have lp := kp.lt
  have HW := Lib.hid hw
  have HV := Lib.hid hv
  have KP := Lib.hid kp
  have HL := Lib.hid hl
  have H13 := Lib.hid h13
  have HB := Lib.hid hb
  have HS := Lib.hid hS
  clear hw hv kp hl h13 hb hS
  go_enter Try.func70, Try.ntmps70
  go_wp2_with fail
  have hA : Below w.heap.size w (w.alloc (.cells #[.bool false, .map none] 167)) := by go_grown
  refine (isp_yes w.heap.size wd c pe lt cs (.map none) x s _ (Bk.fresh _ _ _) (keepc hA HW.out) (keepc hA HV.out) (KP.out.keep hA) H13.out (keepc hA HL.out) hs HB.out HS.out).mono ?_
  rintro e w1 ⟨nw, g, rfl, ks, kn, cg, hn, hg⟩
  have hB := below_grown (w := w) hA hg (Nat.le_refl _)
  have KN := Lib.hid kn
  have CG := Lib.hid cg
  have cs := ks.cells
  have hn' : w.heap.size ≤ nw := by simp at hn; omega
  clear ks kn cg hA hg hn
  go_wp2
  go_quiet (fail)
  go_wp2
  go_ret2
  exact ⟨nw, g, rfl, KN.out, CG.out, hn', bdrewN hB _⟩
end Go.Proofs.Ytnjdffnbkjjmeaa
