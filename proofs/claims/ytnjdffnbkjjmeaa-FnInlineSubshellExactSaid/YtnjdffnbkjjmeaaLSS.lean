/- The walk of FnInlineSubshellExact. -/
import Derived.Test.YtnjdffnbkjjmeaaST
import Derived.Deep.Cut
import Derived.IntWalk
namespace Go.Proofs.Ytnjdffnbkjjmeaa
open Go.RowKit
theorem mkCmd (n : Nat) (hn : n ≤ 1048576) (W : World) : (Instr.makeSlice 25 (.int .i64 (n : Int)) (.int .i64 (n : Int))).run Try.prog W = .ok (.slice (some ⟨W.heap.size, 0, none⟩) n n) (W.alloc (.cells (madeCells #[.nilIface] n) 31)) :=
  makeN 25 31 .nilIface 16 Try.underlying25 (by kernel_rfl) rfl n (by omega) (by omega) W
theorem mkBool (n : Nat) (hn : n ≤ 1048576) (W : World) : (Instr.makeSlice 26 (.int .i64 (4 * (n : Int))) (.int .i64 (4 * (n : Int)))).run Try.prog W = .ok (.slice (some ⟨W.heap.size, 0, none⟩) (4 * n) (4 * n)) (W.alloc (.cells (madeCells #[.bool false] (4 * n)) 4)) := by
  have h := makeN (P := Try.prog) 26 4 (.bool false) 1 Try.underlying26 (by kernel_rfl) rfl (4 * n) (by omega) (by omega) W
  simpa using h
theorem mkInt (n : Nat) (hn : n ≤ 1048576) (W : World) : (Instr.makeSlice 27 (.int .i64 (n : Int)) (.int .i64 (n : Int))).run Try.prog W = .ok (.slice (some ⟨W.heap.size, 0, none⟩) n n) (W.alloc (.cells (madeCells #[.int .i64 0] n) 3)) :=
  makeN 27 3 (.int .i64 0) 8 Try.underlying27 (by kernel_rfl) rfl n (by omega) (by omega) W
/-- The parts of a level: its list's block, its statement, its subshell, its redirects. -/
abbrev Pt := Nat × Nat × Nat × Option Addr × Nat
def LvT (v : Value) (q : Nat) (W : World) (t : Pt) : Prop := v = .slice (some ⟨t.1, 0, none⟩) 1 1 ∧ W.cell? ⟨t.1, 0, none⟩ = some (.pointer (some ⟨t.2.1, 0, none⟩)) ∧ W.cell? ⟨t.2.1, 1, none⟩ = some (.iface 158 (.pointer (some ⟨t.2.2.1, 0, none⟩))) ∧
  W.cell? ⟨t.2.1, 6, none⟩ = some (.bool (decide (q = 0))) ∧ W.cell? ⟨t.2.1, 7, none⟩ = some (.bool (decide (q = 1))) ∧ W.cell? ⟨t.2.1, 8, none⟩ = some (.bool (decide (q = 2))) ∧ W.cell? ⟨t.2.1, 9, none⟩ = some (.bool (decide (q = 3))) ∧ W.cell? ⟨t.2.1, 10, none⟩ = some (.slice t.2.2.2.1 t.2.2.2.2 t.2.2.2.2)
theorem lv_pts {gL D : Nat} {f : Nat → Value} {qq : Nat → Nat} {W : World} (h : ∀ j, j < D → Lv gL (f j) (f (j + 1)) (qq j) W) : ∃ T : Nat → Pt, ∀ j, j < D → LvT (f j) (qq j) W (T j) := by
  have hsk : ∀ j, ∃ t : Pt, j < D → LvT (f j) (qq j) W t := fun j => by
    by_cases hj : j < D
    · obtain ⟨lb, st, sb, ra, rn, e, h1, h2, h3, h4, h5, h6, h7, _⟩ := h j hj
      exact ⟨(lb, st, sb, ra, rn), fun _ => ⟨e, h1, h2, h3, h4, h5, h6, h7⟩⟩
    · exact ⟨(0, 0, 0, none, 0), fun h' => absurd h' hj⟩
  obtain ⟨T, hT⟩ := Classical.skolem.1 hsk
  exact ⟨T, hT⟩
def hdV (T : Nat → Pt) (j : Nat) : Value := .pointer (some ⟨(T j).2.1, 0, none⟩)
def cmV (T : Nat → Pt) (j : Nat) : Value := .iface 158 (.pointer (some ⟨(T j).2.2.1, 0, none⟩))
def flV (qq : Nat → Nat) (i : Nat) : Value := .bool (decide (qq (i / 4) = i % 4))
def rdV (T : Nat → Pt) (j : Nat) : Value := .int .i64 ((T j).2.2.2.2 : Int)
/-- The four rows of the law, filled up to k. -/
def Rows4 (g D k : Nat) (T : Nat → Pt) (qq : Nat → Nat) (W : World) : Prop :=
  RowF W g g 28 D (fun j => if j < k then hdV T j else .pointer none) ∧ RowF W g (g + 1) 31 D (fun j => if j < k then cmV T j else .nilIface) ∧ RowF W g (g + 1 + 1) 4 (4 * D) (fun i => if i < 4 * k then flV qq i else .bool false) ∧ RowF W g (g + 1 + 1 + 1) 3 D (fun j => if j < k then rdV T j else .int .i64 0)
theorem Rows4.keep {g D k : Nat} {T : Nat → Pt} {qq : Nat → Nat} {W W1 : World} (h : Rows4 g D k T qq W) (hb : Below W.heap.size W W1) : Rows4 g D k T qq W1 := ⟨h.1.keep hb, h.2.1.keep hb, h.2.2.1.keep hb, h.2.2.2.keep hb⟩
theorem rows4_fresh (w1 : World) (D : Nat) (hD : D ≤ 65536) (T : Nat → Pt) (qq : Nat → Nat) : Rows4 w1.heap.size D 0 T qq ((((w1.alloc (.cells (madeCells #[.pointer none] D) 28)).alloc (.cells (madeCells #[.nilIface] D) 31)).alloc (.cells (madeCells #[.bool false] (4 * D)) 4)).alloc (.cells (madeCells #[.int .i64 0] D) 3)) := by
  have h1 := ((((RowF.newAt (W := w1) (base := w1.heap.size) (g := w1.heap.size) (n := D) rfl 28 (.pointer none) (Nat.le_refl _) (by unfold maxLen; omega)).alloc (.cells (madeCells #[.nilIface] D) 31)).alloc (.cells (madeCells #[.bool false] (4 * D)) 4)).alloc (.cells (madeCells #[.int .i64 0] D) 3))
  have h2 := (((RowF.newAt (W := w1.alloc (.cells (madeCells #[.pointer none] D) 28)) (base := w1.heap.size) (g := w1.heap.size + 1) (n := D) (by simp) 31 .nilIface (by omega) (by unfold maxLen; omega)).alloc (.cells (madeCells #[.bool false] (4 * D)) 4)).alloc (.cells (madeCells #[.int .i64 0] D) 3))
  have h3 := ((RowF.newAt (W := (w1.alloc (.cells (madeCells #[.pointer none] D) 28)).alloc (.cells (madeCells #[.nilIface] D) 31)) (base := w1.heap.size) (g := w1.heap.size + 1 + 1) (n := 4 * D) (by simp) 4 (.bool false) (by omega) (by unfold maxLen; omega)).alloc (.cells (madeCells #[.int .i64 0] D) 3))
  have h4 := RowF.newAt (W := ((w1.alloc (.cells (madeCells #[.pointer none] D) 28)).alloc (.cells (madeCells #[.nilIface] D) 31)).alloc (.cells (madeCells #[.bool false] (4 * D)) 4)) (base := w1.heap.size) (g := w1.heap.size + 1 + 1 + 1) (n := D) (by simp) 3 (.int .i64 0) (by omega) (by unfold maxLen; omega)
  exact ⟨h1.congr (fun j _ => by simp), h2.congr (fun j _ => by simp), h3.congr (fun j _ => by simp), h4.congr (fun j _ => by simp)⟩
def RelA (w w1 : World) (D : Nat) (T : Nat → Pt) (qq : Nat → Nat) (i : Value) (wr : World) : Prop :=
  ∃ k : Nat, k ≤ D ∧ i = .int .i64 k ∧ Rows4 w1.heap.size D k T qq wr ∧ Below w1.heap.size w1 wr ∧ Below w.heap.size w wr
def RelB (w wA : World) (m : Nat) (lf : Nat → Value) (i : Value) (wr : World) : Prop :=
  ∃ k : Nat, k ≤ m ∧ i = .int .i64 k ∧ RowF wr wA.heap.size wA.heap.size 28 m (fun j => if j < k then lf j else .pointer none) ∧ Below wA.heap.size wA wr ∧ Below w.heap.size w wr
def RelD (w wB : World) (D : Nat) (i : Value) (wr : World) : Prop := ∃ k : Nat, k ≤ D ∧ i = .int .i64 k ∧ Below wB.heap.size wB wr ∧ Below w.heap.size w wr
theorem flags_step {k : Nat} {qq : Nat → Nat} (j : Nat) : (if j = 4 * k + 3 then Value.bool (decide (qq k = 3)) else if j = 4 * k + 2 then .bool (decide (qq k = 2)) else if j = 4 * k + 1 then .bool (decide (qq k = 1)) else if j = 4 * k then .bool (decide (qq k = 0)) else if j < 4 * k then flV qq j else .bool false) = if j < 4 * (k + 1) then flV qq j else .bool false := by
  have e : ∀ c, c < 4 → flV qq (4 * k + c) = .bool (decide (qq k = c)) := fun c hc => by
    unfold flV
    rw [show (4 * k + c) / 4 = k by omega, show (4 * k + c) % 4 = c by omega]
  by_cases h3 : j = 4 * k + 3
  · subst h3; rw [if_pos rfl, if_pos (by omega), e 3 (by omega)]
  rw [if_neg h3]
  by_cases h2 : j = 4 * k + 2
  · subst h2; rw [if_pos rfl, if_pos (by omega), e 2 (by omega)]
  rw [if_neg h2]
  by_cases h1 : j = 4 * k + 1
  · subst h1; rw [if_pos rfl, if_pos (by omega), e 1 (by omega)]
  rw [if_neg h1]
  by_cases h0 : j = 4 * k
  · subst h0; rw [if_pos rfl, if_pos (by omega)]; exact (e 0 (by omega)).symm
  rw [if_neg h0]
  by_cases h : j < 4 * k
  · rw [if_pos h, if_pos (by omega)]
  · rw [if_neg h, if_neg (by omega)]
theorem row_step {k j : Nat} {V Z : Value} {h : Nat → Value} (hV : V = h k) : (if j = k then V else if j < k then h j else Z) = if j < k + 1 then h j else Z := by
  by_cases h1 : j = k
  · subst h1; rw [if_pos rfl, if_pos (by omega), hV]
  · rw [if_neg h1]
    by_cases h2 : j < k
    · rw [if_pos h2, if_pos (by omega)]
    · rw [if_neg h2, if_neg (by omega)]
theorem rows4_step {g D k : Nat} {T : Nat → Pt} {qq : Nat → Nat} {wr : World} {V1 V2 c0 c1 c2 c3 V4 : Value} (h : Rows4 g D k T qq wr) (e1 : V1 = hdV T k) (e2 : V2 = cmV T k) (f0 : c0 = .bool (decide (qq k = 0))) (f1 : c1 = .bool (decide (qq k = 1))) (f2 : c2 = .bool (decide (qq k = 2))) (f3 : c3 = .bool (decide (qq k = 3))) (e4 : V4 = rdV T k) :
    Rows4 g D (k + 1) T qq (((((((wr.setCell ⟨g, k, none⟩ V1).setCell ⟨g + 1, k, none⟩ V2).setCell ⟨g + 1 + 1, 4 * k, none⟩ c0).setCell ⟨g + 1 + 1, 4 * k + 1, none⟩ c1).setCell ⟨g + 1 + 1, 4 * k + 2, none⟩ c2).setCell ⟨g + 1 + 1, 4 * k + 3, none⟩ c3).setCell ⟨g + 1 + 1 + 1, k, none⟩ V4) := by
  have r1 := (((((((h.1.put (k := k) V1).far (p := ⟨g + 1, k, none⟩) (by simp <;> omega) V2).far (p := ⟨g + 1 + 1, 4 * k, none⟩) (by simp <;> omega) c0).far (p := ⟨g + 1 + 1, 4 * k + 1, none⟩) (by simp <;> omega) c1).far (p := ⟨g + 1 + 1, 4 * k + 2, none⟩) (by simp <;> omega) c2).far (p := ⟨g + 1 + 1, 4 * k + 3, none⟩) (by simp <;> omega) c3).far (p := ⟨g + 1 + 1 + 1, k, none⟩) (by simp <;> omega) V4)
  have r2 := (((((((h.2.1.far (p := ⟨g, k, none⟩) (by simp <;> omega) V1).put (k := k) V2).far (p := ⟨g + 1 + 1, 4 * k, none⟩) (by simp <;> omega) c0).far (p := ⟨g + 1 + 1, 4 * k + 1, none⟩) (by simp <;> omega) c1).far (p := ⟨g + 1 + 1, 4 * k + 2, none⟩) (by simp <;> omega) c2).far (p := ⟨g + 1 + 1, 4 * k + 3, none⟩) (by simp <;> omega) c3).far (p := ⟨g + 1 + 1 + 1, k, none⟩) (by simp <;> omega) V4)
  have r3 := (((((((h.2.2.1.far (p := ⟨g, k, none⟩) (by simp <;> omega) V1).far (p := ⟨g + 1, k, none⟩) (by simp <;> omega) V2).put (k := 4 * k) c0).put (k := 4 * k + 1) c1).put (k := 4 * k + 2) c2).put (k := 4 * k + 3) c3).far (p := ⟨g + 1 + 1 + 1, k, none⟩) (by simp <;> omega) V4)
  have r4 := (((((((h.2.2.2.far (p := ⟨g, k, none⟩) (by simp <;> omega) V1).far (p := ⟨g + 1, k, none⟩) (by simp <;> omega) V2).far (p := ⟨g + 1 + 1, 4 * k, none⟩) (by simp <;> omega) c0).far (p := ⟨g + 1 + 1, 4 * k + 1, none⟩) (by simp <;> omega) c1).far (p := ⟨g + 1 + 1, 4 * k + 2, none⟩) (by simp <;> omega) c2).far (p := ⟨g + 1 + 1, 4 * k + 3, none⟩) (by simp <;> omega) c3).put (k := k) V4)
  refine ⟨r1.congr (fun j _ => row_step e1), r2.congr (fun j _ => row_step e2), r3.congr (fun j _ => ?_), r4.congr (fun j _ => row_step e4)⟩
  rw [f0, f1, f2, f3]
  exact flags_step j
theorem below7 {B g k : Nat} {w0 wr : World} {V1 V2 c0 c1 c2 c3 V4 : Value} (h : Below B w0 wr) (hg : B ≤ g) :
    Below B w0 (((((((wr.setCell ⟨g, k, none⟩ V1).setCell ⟨g + 1, k, none⟩ V2).setCell ⟨g + 1 + 1, 4 * k, none⟩ c0).setCell ⟨g + 1 + 1, 4 * k + 1, none⟩ c1).setCell ⟨g + 1 + 1, 4 * k + 2, none⟩ c2).setCell ⟨g + 1 + 1, 4 * k + 3, none⟩ c3).setCell ⟨g + 1 + 1 + 1, k, none⟩ V4) :=
  ((((((h.setCell (p := ⟨g, k, none⟩) hg V1).setCell (p := ⟨g + 1, k, none⟩) (by show B ≤ g + 1; omega) V2).setCell (p := ⟨g + 1 + 1, 4 * k, none⟩) (by show B ≤ g + 1 + 1; omega) c0).setCell (p := ⟨g + 1 + 1, 4 * k + 1, none⟩) (by show B ≤ g + 1 + 1; omega) c1).setCell (p := ⟨g + 1 + 1, 4 * k + 2, none⟩) (by show B ≤ g + 1 + 1; omega) c2).setCell (p := ⟨g + 1 + 1, 4 * k + 3, none⟩) (by show B ≤ g + 1 + 1; omega) c3).setCell (p := ⟨g + 1 + 1 + 1, k, none⟩) (by show B ≤ g + 1 + 1 + 1; omega) V4
/-- A quiet call in a region behind another one: the draws are joined. -/
theorem again {P : Program} {fn : FuncId} {args : Array Value} {w : World} {a n : Nat} {v : Value} (h : Calls P fn args (w.drewN (a + n)) fun e w' => e = .returned v ∧ w' = w.drewN (a + n)) : Calls P fn args (w.drewN (a + n)) fun e w' => e = .returned v ∧ ∃ m, w' = w.drewN (a + m) := by
  refine h.mono ?_
  rintro e w' ⟨he, hw⟩
  exact ⟨he, n, hw⟩
theorem srcA {f : Nat → Value} {qq : Nat → Nat} {W : World} {T : Nat → Pt} {j D : Nat} (h : ∀ j, j < D → LvT (f j) (qq j) W (T j)) (hj : j < D) : ∃ (a : Option Addr) (n c : Nat) (fv : Nat → Value), f j = .slice a n c ∧ Src W a n fv ∧ (∀ i, i < n → ∃ p : Addr, fv i = .pointer (some p)) ∧ n ≤ 65536 := by
  obtain ⟨e, h1, _⟩ := h j hj
  refine ⟨_, _, _, fun _ => .pointer (some ⟨(T j).2.1, 0, none⟩), e, .inr ⟨_, rfl, fun i hi => ?_⟩, fun _ _ => ⟨_, rfl⟩, by omega⟩
  obtain rfl : i = 0 := by omega
  simpa [Addr.add] using h1
theorem srcB {gL gl m : Nat} {v : Value} {lf : Nat → Value} {W : World} (e : v = .slice (some ⟨gl, 0, none⟩) m m) (rl : RowF W gl gl 28 m lf) (hL : ∀ j, j < m → Leaf gl gL (lf j) W) (hm : m ≤ 65536) : ∃ (a : Option Addr) (n c : Nat) (fv : Nat → Value), v = .slice a n c ∧ Src W a n fv ∧ (∀ i, i < n → ∃ p : Addr, fv i = .pointer (some p)) ∧ n ≤ 65536 :=
  ⟨_, _, _, lf, e, rl.src, fun i hi => by obtain ⟨a, c, h, _⟩ := hL i hi; exact ⟨_, h⟩, hm⟩
theorem termB {gL gl m : Nat} {v : Value} {lf : Nat → Value} {W : World} (e : v = .slice (some ⟨gl, 0, none⟩) m m) (rl : RowF W gl gl 28 m lf) (hL : ∀ j, j < m → Leaf gl gL (lf j) W) : Term gL gl m v W :=
  .inr ⟨e, fun h1 => ⟨lf 0, rl.cell (by omega), hL 0 (by omega)⟩⟩
theorem shape0 {gl D m : Nat} {f : Nat → Value} {qq : Nat → Nat} {W : World} {T : Nat → Pt} (h : ∀ j, j < D → LvT (f j) (qq j) W (T j)) (hD : f D = .slice (some ⟨gl, 0, none⟩) m m) : ∃ a n c, f 0 = .slice a n c := by
  by_cases h0 : D = 0
  · subst h0; exact ⟨_, _, _, hD⟩
  · obtain ⟨e, _⟩ := h 0 (by omega)
    exact ⟨_, _, _, e⟩
end Go.Proofs.Ytnjdffnbkjjmeaa
