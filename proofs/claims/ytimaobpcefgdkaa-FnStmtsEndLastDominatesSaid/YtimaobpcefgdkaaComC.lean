/- zzComments: the copy of the comments. -/
import Derived.Test.YtimaobpcefgdkaaComB
import Derived.Test.YtimaobpcefgdkaaFileE
import Derived.Deep.RegionHeld3
namespace Go.Proofs.Ytimaobpcefgdkaa
open Go.RowKit
def WF3 (cs : Array Value) (j : Nat) : Prop := ∃ (O L : Int) (s : ByteArray), cs[j * 3]? = some (.int .u32 O) ∧ cs[j * 3 + 1]? = some (.int .u32 L) ∧ cs[j * 3 + 2]? = some (.string s) ∧ 0 ≤ O ∧ O < 4294967296 ∧ 0 ≤ L ∧ L < 4294967296 ∧ s.size ≤ 1048576
theorem WF3.made {n j : Nat} (hj : j < n) : WF3 (madeCells #[.int .u32 0, .int .u32 0, .string ByteArray.empty] (n * 3)) j := by
  have h0 : (j * 3) % 3 = 0 := by omega
  have h1 : (j * 3 + 1) % 3 = 1 := by omega
  have h2 : (j * 3 + 2) % 3 = 2 := by omega
  refine ⟨0, 0, ByteArray.empty, ?_, ?_, ?_, by omega, by omega, by omega, by omega, by simp⟩
  · unfold madeCells; simp [show j * 3 < n * 3 by omega]
  · unfold madeCells; simp [show j * 3 + 1 < n * 3 by omega, h1]
  · unfold madeCells; simp [show j * 3 + 2 < n * 3 by omega, h2]
def RowC (W : World) (g n : Nat) : Prop := ∃ cs, Bk W g 58 cs ∧ ∀ j, j < n → WF3 cs j
theorem RowC.keep {W W1 : World} {g n : Nat} (h : RowC W g n) (hb : Below W.heap.size W W1) : RowC W1 g n := by
  obtain ⟨cs, h1, h2⟩ := h
  exact ⟨cs, h1.keep hb, h2⟩
theorem RowC.lt {W : World} {g n : Nat} (h : RowC W g n) : g < W.heap.size := by
  obtain ⟨cs, h1, h2⟩ := h
  exact h1.lt
theorem RowC.put {W : World} {g n k : Nat} {O L : Int} {s : ByteArray} (h : RowC W g n) (hk : k < n) (o0 : 0 ≤ O) (o1 : O < 4294967296) (l0 : 0 ≤ L) (l1 : L < 4294967296) (hs : s.size ≤ 1048576) :
    RowC (((W.setCell ⟨g, k * 3, none⟩ (.int .u32 O)).setCell ⟨g, k * 3 + 1, none⟩ (.int .u32 L)).setCell ⟨g, k * 3 + 2, none⟩ (.string s)) g n := by
  obtain ⟨cs, h1, h2⟩ := h
  refine ⟨_, ((h1.put _ _).put _ _).put _ _, fun j hj => ?_⟩
  obtain ⟨O', L', s', q0, q1, q2, b⟩ := h2 j hj
  by_cases hjk : j = k
  · subst hjk
    have z0 := (Array.getElem?_eq_some_iff.1 q0).1
    have z1 := (Array.getElem?_eq_some_iff.1 q1).1
    have z2 := (Array.getElem?_eq_some_iff.1 q2).1
    refine ⟨O, L, s, ?_, ?_, ?_, o0, o1, l0, l1, hs⟩
    · rw [Array.getElem?_setIfInBounds_ne (by omega), Array.getElem?_setIfInBounds_ne (by omega), Array.getElem?_setIfInBounds_self_of_lt (by simpa using z0)]
    · rw [Array.getElem?_setIfInBounds_ne (by omega), Array.getElem?_setIfInBounds_self_of_lt (by simpa using z1)]
    · rw [Array.getElem?_setIfInBounds_self_of_lt (by simpa using z2)]
  · refine ⟨O', L', s', ?_, ?_, ?_, b⟩
    · rw [Array.getElem?_setIfInBounds_ne (by omega), Array.getElem?_setIfInBounds_ne (by omega), Array.getElem?_setIfInBounds_ne (by omega)]; exact q0
    · rw [Array.getElem?_setIfInBounds_ne (by omega), Array.getElem?_setIfInBounds_ne (by omega), Array.getElem?_setIfInBounds_ne (by omega)]; exact q1
    · rw [Array.getElem?_setIfInBounds_ne (by omega), Array.getElem?_setIfInBounds_ne (by omega), Array.getElem?_setIfInBounds_ne (by omega)]; exact q2
/-- What lies at p (kept shut, so that a rewriting with it ends). -/
def valAt (W : World) (p : Addr) : Value := (W.cell? p).getD (.bool false)
theorem valAt_of {W : World} {p : Addr} {v : Value} (h : W.cell? p = some v) : W.cell? p = some (valAt W p) := by unfold valAt; rw [h]; rfl
theorem RowC.vals {W : World} {g n k : Nat} (h : RowC W g n) (hk : k < n) : W.cell? ⟨g, k * 3, none⟩ = some (valAt W ⟨g, k * 3, none⟩) ∧ W.cell? ⟨g, k * 3 + 1, none⟩ = some (valAt W ⟨g, k * 3 + 1, none⟩) ∧ W.cell? ⟨g, k * 3 + 2, none⟩ = some (valAt W ⟨g, k * 3 + 2, none⟩) ∧ W.frozen? ⟨g, k * 3, none⟩ = false ∧ W.frozen? ⟨g, k * 3 + 1, none⟩ = false ∧ W.frozen? ⟨g, k * 3 + 2, none⟩ = false := by
  obtain ⟨cs, h1, h2⟩ := h
  obtain ⟨O', L', s', q0, q1, q2, b⟩ := h2 k hk
  exact ⟨valAt_of (v := .int .u32 O') (by rw [h1.cells]; exact q0), valAt_of (v := .int .u32 L') (by rw [h1.cells]; exact q1), valAt_of (v := .string s') (by rw [h1.cells]; exact q2), h1.frz _, h1.frz _, h1.frz _⟩
theorem infoCom : (Try.prog.info? 58).map (fun i => (i.zero, i.size, i.bytes)) = some (some (.agg #[.int .u32 0, .int .u32 0, .string ByteArray.empty]), 3, 24) := by kernel_rfl
theorem makeCom (n : Nat) (hn : n ≤ 1048576) (W : World) : (Instr.makeSlice 54 (.int .i64 (n : Int)) (.int .i64 (n : Int))).run Try.prog W = .ok (.slice (some ⟨W.heap.size, 0, none⟩) n n) (W.alloc (.cells (madeCells #[.int .u32 0, .int .u32 0, .string ByteArray.empty] (n * 3)) 58)) := by
  obtain ⟨i0, hi, hz0, hz1, hz2⟩ := info_parts infoCom
  have h := run_make (P := Try.prog) W 54 58 i0 _ Try.underlying54 hi hz0 .i64 .i64 (n : Int) (n : Int) (by omega) (by omega) (by rw [hz2]; omega) (by omega)
  rw [hz1] at h
  simpa [Value.cells] using h
/-- What one round leans on. -/
def InC (w : World) (x : Addr) (g n k : Nat) (o l c : Int) (s : ByteArray) (W : World) : Prop :=
  W.cell? (x.add (k * 4)) = some (.int .u32 o) ∧ W.cell? { block := (x.add (k * 4)).block, off := (x.add (k * 4)).off + 1 } = some (.int .u32 l) ∧ W.cell? { block := (x.add (k * 4)).block, off := (x.add (k * 4)).off + 2 } = some (.int .u32 c) ∧ W.cell? { block := (x.add (k * 4)).block, off := (x.add (k * 4)).off + 3 } = some (.string s) ∧
  W.cell? ⟨g, k * 3, none⟩ = some (valAt W ⟨g, k * 3, none⟩) ∧ W.cell? ⟨g, k * 3 + 1, none⟩ = some (valAt W ⟨g, k * 3 + 1, none⟩) ∧ W.cell? ⟨g, k * 3 + 2, none⟩ = some (valAt W ⟨g, k * 3 + 2, none⟩) ∧ W.frozen? ⟨g, k * 3, none⟩ = false ∧ W.frozen? ⟨g, k * 3 + 1, none⟩ = false ∧ W.frozen? ⟨g, k * 3 + 2, none⟩ = false ∧ RowC W g n ∧ Below w.heap.size w W
theorem InC.mk {w : World} {x : Addr} {g n k : Nat} {o l c : Int} {s : ByteArray} {W : World} (h0 : W.cell? (x.add (k * 4)) = some (.int .u32 o)) (h1 : W.cell? { block := (x.add (k * 4)).block, off := (x.add (k * 4)).off + 1 } = some (.int .u32 l)) (h2 : W.cell? { block := (x.add (k * 4)).block, off := (x.add (k * 4)).off + 2 } = some (.int .u32 c)) (h3 : W.cell? { block := (x.add (k * 4)).block, off := (x.add (k * 4)).off + 3 } = some (.string s)) (hR : RowC W g n) (hk : k < n) (hB : Below w.heap.size w W) : InC w x g n k o l c s W :=
  ⟨h0, h1, h2, h3, (hR.vals hk).1, (hR.vals hk).2.1, (hR.vals hk).2.2.1, (hR.vals hk).2.2.2.1, (hR.vals hk).2.2.2.2.1, (hR.vals hk).2.2.2.2.2, hR, hB⟩
theorem InC.keep {w : World} {x : Addr} {g n k : Nat} {o l c : Int} {s : ByteArray} {W W1 : World} (hk : k < n) (h : InC w x g n k o l c s W) (hb : Below W.heap.size W W1) : InC w x g n k o l c s W1 :=
  InC.mk (keepc hb h.1) (keepc hb h.2.1) (keepc hb h.2.2.1) (keepc hb h.2.2.2.1) (h.2.2.2.2.2.2.2.2.2.2.1.keep hb) hk (bmore h.2.2.2.2.2.2.2.2.2.2.2 hb)
theorem InC.put {w : World} {x : Addr} {g n k : Nat} {o l c O L : Int} {s : ByteArray} {W : World} (hk : k < n) (hg : w.heap.size ≤ g) (hx : (x.add (k * 4)).block < w.heap.size) (o0 : 0 ≤ O) (o1 : O < 4294967296) (l0 : 0 ≤ L) (l1 : L < 4294967296) (hs : s.size ≤ 1048576) (h : InC w x g n k o l c s W) :
    InC w x g n k o l c s (((W.setCell ⟨g, k * 3, none⟩ (.int .u32 O)).setCell ⟨g, k * 3 + 1, none⟩ (.int .u32 L)).setCell ⟨g, k * 3 + 2, none⟩ (.string s)) := by
  have hne : (x.add (k * 4)).block ≠ g := by omega
  refine InC.mk ?_ ?_ ?_ ?_ (h.2.2.2.2.2.2.2.2.2.2.1.put hk o0 o1 l0 l1 hs) hk ?_
  · exact cell_far (cell_far (cell_far h.1 hne) hne) hne
  · exact cell_far (cell_far (cell_far h.2.1 hne) hne) hne
  · exact cell_far (cell_far (cell_far h.2.2.1 hne) hne) hne
  · exact cell_far (cell_far (cell_far h.2.2.2.1 hne) hne) hne
  · exact ((h.2.2.2.2.2.2.2.2.2.2.2.setCell (p := ⟨g, k * 3, none⟩) hg _).setCell (p := ⟨g, k * 3 + 1, none⟩) hg _).setCell (p := ⟨g, k * 3 + 2, none⟩) hg _
def RetC (w : World) (n : Nat) (e : Ending) (w' : World) : Prop := ∃ g : Nat, e = .returned (.slice (some ⟨g, 0, none⟩) n n) ∧ w.heap.size ≤ g ∧ RowC w' g n ∧ Below w.heap.size w w'
set_option maxHeartbeats 8000000 in
set_option maxRecDepth 100000 in
theorem zzComments_some (x : Addr) (n cap : Nat) (w : World) (hn : n ≤ 1048576) (h : ∀ i, i < n → OkCom w (x.add (i * 4))) : Calls Try.prog 21 #[.slice (some x) n cap] w (RetC w n) := by
  have hmk := makeCom n hn
  have HC := Lib.hid h
  clear h
  have hnil := fun (w : World) (a : Option Addr) (n c n' c' : Nat) => Lib.run_eql_slice_nil (P := Try.prog) w 49 120 a n c n' c' Try.underlying49
  go_enter Try.func21, Try.ntmps21
  go_wp2_with fail
  refine wp_gen (S := fun W => RowC W w.heap.size n ∧ Below w.heap.size w W) ⟨⟨_, Bk.fresh _ _ _, fun j hj => WF3.made hj⟩, by go_grown⟩ ?_
  rintro W ⟨hR, hB⟩
  go_loopw [12] (fun i wr => ∃ k : Nat, k ≤ n ∧ i = .int .i64 k ∧ RowC wr w.heap.size n ∧ Below w.heap.size w wr) (fun i _ => n - (intOf i).toNat)
  case atStart => exact ⟨0, by omega, by go_num, hR, hB⟩
  case round =>
    clear hR hB
    obtain ⟨k, hk, rfl, hR, hB⟩ := hrel
    by_cases hlt : k < n
    · obtain ⟨⟨o, l, c, p0, p1, p2, b0, b1, b2, b3, b4, b5⟩, s, p3, hs⟩ := HC.out k hlt
      have hI : InC w x w.heap.size n k o l c s wr := InC.mk (keepc hB p0) (keepc hB p1) (keepc hB p2) (keepc hB p3) hR hlt hB
      have hx := World.block_lt_of_cell? _ _ p0
      have hlt' : (k : Int) < (n : Int) := by omega
      have i0 : (0 : Int) ≤ (k : Int) := by omega
      have hO := npO_bd o b0
      have hL := npL_bd l c b2 b4
      clear hR hB p0 p1 p2 p3
      go_wp2_with fail
      go_region_held3 (fun W => W.cell? (x.add (k * 4)) = some (.int .u32 o) ∧ W.cell? { block := (x.add (k * 4)).block, off := (x.add (k * 4)).off + 1 } = some (.int .u32 l) ∧ W.cell? { block := (x.add (k * 4)).block, off := (x.add (k * 4)).off + 2 } = some (.int .u32 c) ∧ W.cell? { block := (x.add (k * 4)).block, off := (x.add (k * 4)).off + 3 } = some (.string s) ∧
  W.cell? ⟨w.heap.size, k * 3, none⟩ = some (valAt W ⟨w.heap.size, k * 3, none⟩) ∧ W.cell? ⟨w.heap.size, k * 3 + 1, none⟩ = some (valAt W ⟨w.heap.size, k * 3 + 1, none⟩) ∧ W.cell? ⟨w.heap.size, k * 3 + 2, none⟩ = some (valAt W ⟨w.heap.size, k * 3 + 2, none⟩) ∧ W.frozen? ⟨w.heap.size, k * 3, none⟩ = false ∧ W.frozen? ⟨w.heap.size, k * 3 + 1, none⟩ = false ∧ W.frozen? ⟨w.heap.size, k * 3 + 2, none⟩ = false ∧ RowC W w.heap.size n ∧ Below w.heap.size w W)
        (first | exact InC.keep hlt hI ⟨rfl, rfl, rfl, Nat.le_refl _, fun _ _ => rfl⟩ | exact InC.keep hlt (by assumption) (by assumption) | exact InC.put hlt (Nat.le_refl _) hx (by omega) (by omega) (by omega) (by omega) hs (by assumption))
        (first | (go_at_call 38; refine (zzPos128_any o l c _ (by omega) (by omega) (by omega) (by omega) (by omega) (by omega)).mono ?_; rintro e w' ⟨rfl, hb⟩))
      rename_i hH
      have hR : RowC _ w.heap.size n := hH.2.2.2.2.2.2.2.2.2.2.1
      have hB : Below w.heap.size w _ := hH.2.2.2.2.2.2.2.2.2.2.2
      clear hH hI
      go_wp2
      go_roundw
      case rel => exact ⟨k + 1, by omega, by go_num, hR, hB⟩
      case measure => simp [intOf]; omega
    · obtain rfl : k = n := by omega
      have hlt' : ¬ (k : Int) < (k : Int) := by omega
      go_wp2
      go_ret
      exact ⟨_, rfl, Nat.le_refl _, hR, hB⟩
end Go.Proofs.Ytimaobpcefgdkaa
