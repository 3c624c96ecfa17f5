/- Slices of positions, of comments and of statements (structs) that came in, opened to their cells. -/
import Derived.Test.YtimaobpcefgdkaaArgs
import Derived.Deep.Slices
import Derived.ChangeSame
namespace Go.Proofs.Ytimaobpcefgdkaa
open Go.RowKit
section
variable {H : Type} {enc : TypeId × Value → H} {w : World} {base : Nat} {spare : Nat → Bool} {held : Bool} {n : Nat} {cs : List Value} {y : DataW H × List MemPlace}
set_option maxRecDepth 100000 in
theorem trod_pos3 (h : DataW.trod enc Try.prog w base spare held n 84 cs = some y) : ∃ o l c : Int, cs = [.int .u32 o, .int .u32 l, .int .u32 c] ∧ (Lit.int .u32 o).wf = true ∧ (Lit.int .u32 l).wf = true ∧ (Lit.int .u32 c).wf = true := by
  obtain ⟨xs, m, _, _, hlen, hx, hf⟩ := DataW.trod_struct Try.underlying84 h
  have hC : Try.prog.cellsOf 84 = 3 := by kernel_rfl
  have h1 : Try.prog.cellsOf 26 = 1 := by kernel_rfl
  rw [hC] at hlen
  match cs, hlen, xs, hx with
  | [c0, c1, c2], _, [x0, x1, x2], _ =>
    have g0 : DataW.trod enc Try.prog w base spare held m 26 (([c0, c1, c2].drop 0).take (Try.prog.cellsOf 26)) = some x0 := hf 0 _ rfl
    rw [h1] at g0
    change DataW.trod enc Try.prog w base spare held m 26 [c0] = some x0 at g0
    have g1 : DataW.trod enc Try.prog w base spare held m 26 (([c0, c1, c2].drop 1).take (Try.prog.cellsOf 26)) = some x1 := hf 1 _ rfl
    rw [h1] at g1
    change DataW.trod enc Try.prog w base spare held m 26 [c1] = some x1 at g1
    have g2 : DataW.trod enc Try.prog w base spare held m 26 (([c0, c1, c2].drop 2).take (Try.prog.cellsOf 26)) = some x2 := hf 2 _ rfl
    rw [h1] at g2
    change DataW.trod enc Try.prog w base spare held m 26 [c2] = some x2 at g2
    obtain ⟨o, e0, _, w0⟩ := DataW.trod_int Try.underlying26 g0
    obtain ⟨l, e1, _, w1⟩ := DataW.trod_int Try.underlying26 g1
    obtain ⟨c, e2, _, w2⟩ := DataW.trod_int Try.underlying26 g2
    simp only [List.cons.injEq, and_true] at e0 e1 e2
    exact ⟨o, l, c, by rw [e0, e1, e2], w0, w1, w2⟩
set_option maxRecDepth 100000 in
theorem trod_com (h : DataW.trod enc Try.prog w base spare held n 120 cs = some y) : ∃ (o l c : Int) (s : ByteArray), cs = [.int .u32 o, .int .u32 l, .int .u32 c, .string s] ∧ (Lit.int .u32 o).wf = true ∧ (Lit.int .u32 l).wf = true ∧ (Lit.int .u32 c).wf = true ∧ s.size ≤ maxLen := by
  obtain ⟨xs, m, _, _, hlen, hx, hf⟩ := DataW.trod_struct Try.underlying120 h
  have hC : Try.prog.cellsOf 120 = 4 := by kernel_rfl
  have h3 : Try.prog.cellsOf 84 = 3 := by kernel_rfl
  have h1 : Try.prog.cellsOf 9 = 1 := by kernel_rfl
  rw [hC] at hlen
  match cs, hlen, xs, hx with
  | [c0, c1, c2, c3], _, [x0, x1], _ =>
    have g0 : DataW.trod enc Try.prog w base spare held m 84 (([c0, c1, c2, c3].drop 0).take (Try.prog.cellsOf 84)) = some x0 := hf 0 _ rfl
    rw [h3] at g0
    change DataW.trod enc Try.prog w base spare held m 84 [c0, c1, c2] = some x0 at g0
    have g1 : DataW.trod enc Try.prog w base spare held m 9 (([c0, c1, c2, c3].drop 3).take (Try.prog.cellsOf 9)) = some x1 := hf 1 _ rfl
    rw [h1] at g1
    change DataW.trod enc Try.prog w base spare held m 9 [c3] = some x1 at g1
    obtain ⟨o, l, c, e0, w0, w1, w2⟩ := trod_pos3 g0
    obtain ⟨s, e1, _, w3⟩ := DataW.trod_string Try.underlying9 g1
    simp only [List.cons.injEq, and_true] at e0 e1
    exact ⟨o, l, c, s, by rw [e0.1, e0.2.1, e0.2.2, e1], w0, w1, w2, w3⟩
set_option maxRecDepth 100000 in
theorem trod_st (h : DataW.trod enc Try.prog w base spare held n 118 cs = some y) : ∃ (o l c : Int) (v : Value) (m : Nat) (z : DataW H × List MemPlace), cs = [.int .u32 o, .int .u32 l, .int .u32 c, v] ∧ (Lit.int .u32 o).wf = true ∧ (Lit.int .u32 l).wf = true ∧ (Lit.int .u32 c).wf = true ∧ DataW.trod enc Try.prog w base spare held m 49 [v] = some z := by
  obtain ⟨xs, m, _, _, hlen, hx, hf⟩ := DataW.trod_struct Try.underlying118 h
  have hC : Try.prog.cellsOf 118 = 4 := by kernel_rfl
  have h3 : Try.prog.cellsOf 84 = 3 := by kernel_rfl
  have h1 : Try.prog.cellsOf 49 = 1 := by kernel_rfl
  rw [hC] at hlen
  match cs, hlen, xs, hx with
  | [c0, c1, c2, c3], _, [x0, x1], _ =>
    have g0 : DataW.trod enc Try.prog w base spare held m 84 (([c0, c1, c2, c3].drop 0).take (Try.prog.cellsOf 84)) = some x0 := hf 0 _ rfl
    rw [h3] at g0
    change DataW.trod enc Try.prog w base spare held m 84 [c0, c1, c2] = some x0 at g0
    have g1 : DataW.trod enc Try.prog w base spare held m 49 (([c0, c1, c2, c3].drop 3).take (Try.prog.cellsOf 49)) = some x1 := hf 1 _ rfl
    rw [h1] at g1
    change DataW.trod enc Try.prog w base spare held m 49 [c3] = some x1 at g1
    obtain ⟨o, l, c, e0, w0, w1, w2⟩ := trod_pos3 g0
    simp only [List.cons.injEq, and_true] at e0
    exact ⟨o, l, c, c3, m, x1, by rw [e0.1, e0.2.1, e0.2.2], w0, w1, w2, g1⟩
end
/-- A position as three numbers. -/
def Pos3At (w : World) (p : Addr) : Prop := ∃ o l c : Int, w.cell? p = some (.int .u32 o) ∧ w.cell? (p.add 1) = some (.int .u32 l) ∧ w.cell? (p.add 2) = some (.int .u32 c) ∧ 0 ≤ o ∧ o < 4294967296 ∧ 0 ≤ l ∧ l < 4294967296 ∧ 0 ≤ c ∧ c < 4294967296
def IsPoss (w : World) (a : Option Addr) (len cap : Nat) : Prop :=
  (a = none ∧ len = 0 ∧ cap = 0) ∨ ∃ x, a = some x ∧ len ≤ cap ∧ cap ≤ maxLen ∧ ∀ i, i < cap → Pos3At w (x.add (i * 3))
def ComAt (w : World) (p : Addr) : Prop := Pos3At w p ∧ ∃ s : ByteArray, w.cell? (p.add 3) = some (.string s) ∧ s.size ≤ maxLen
def IsComs (w : World) (a : Option Addr) (len cap : Nat) : Prop :=
  (a = none ∧ len = 0 ∧ cap = 0) ∨ ∃ x, a = some x ∧ len ≤ cap ∧ cap ≤ maxLen ∧ ∀ i, i < cap → ComAt w (x.add (i * 4))
def StAt (w : World) (p : Addr) : Prop := Pos3At w p ∧ ∃ (a : Option Addr) (len cap : Nat), w.cell? (p.add 3) = some (.slice a len cap) ∧ IsComs w a len cap
def IsSts (w : World) (a : Option Addr) (len cap : Nat) : Prop :=
  (a = none ∧ len = 0 ∧ cap = 0) ∨ ∃ x, a = some x ∧ len ≤ cap ∧ cap ≤ maxLen ∧ ∀ i, i < cap → StAt w (x.add (i * 4))
theorem cell_add0 {w : World} {p : Addr} {v : Value} (h : w.cell? (p.add 0) = some v) : w.cell? p = some v := by simpa [Addr.add] using h
theorem pos3_cells {w : World} {p : Addr} {o l c : Int} {cs : List Value} {N : Nat} (hc : ∀ i, i < N → w.cell? (p.add i) = cs[i]?) (h3 : 3 ≤ N) (e : ∃ rest, cs = .int .u32 o :: .int .u32 l :: .int .u32 c :: rest) (w0 : (Lit.int .u32 o).wf = true) (w1 : (Lit.int .u32 l).wf = true) (w2 : (Lit.int .u32 c).wf = true) : Pos3At w p := by
  obtain ⟨rest, rfl⟩ := e
  have b0 := bounds_u32 w0
  have b1 := bounds_u32 w1
  have b2 := bounds_u32 w2
  exact ⟨o, l, c, cell_add0 (hc 0 (by omega)), hc 1 (by omega), hc 2 (by omega), by omega, by omega, by omega, by omega, by omega, by omega⟩
section
variable {H : Type} {enc : TypeId × Value → H} {w : World} {held : Bool} {a : Option Addr} {len cap : Nat} {d : DataW H} {p : List MemPlace}
theorem IsPoss.of (h : DataW.Trod enc Try.prog w 0 (fun _ => true) held 80 (.slice a len cap) d p) : IsPoss w a len cap := by
  obtain ⟨fuel, hf⟩ := h
  have hC : Try.prog.cellsOf 84 = 3 := by kernel_rfl
  rcases Go.Deep.open_slice Try.underlying80 hf with ⟨hcs, _⟩ | ⟨x, l, c, m, n, D, Pl, hcs, _, hl, hm, hmm, _, hi⟩
  · simp [Value.cells] at hcs
    exact .inl hcs
  · simp [Value.cells] at hcs
    obtain ⟨rfl, rfl, rfl⟩ := hcs
    simp only [if_true] at hmm
    subst hmm
    refine .inr ⟨x, rfl, hl, hm, fun i him => ?_⟩
    obtain ⟨cs', hc, ht⟩ := hi i him
    rw [hC] at hc
    obtain ⟨_, hcl, hat⟩ := World.cells?_some hc
    obtain ⟨o, l, c, rfl, w0, w1, w2⟩ := trod_pos3 ht
    exact pos3_cells hat (by omega) ⟨_, rfl⟩ w0 w1 w2
theorem IsComs.of {fuel : Nat} {z : DataW H × List MemPlace} (hf : DataW.trod enc Try.prog w 0 (fun _ => true) held fuel 49 [.slice a len cap] = some z) : IsComs w a len cap := by
  have hC : Try.prog.cellsOf 120 = 4 := by kernel_rfl
  rcases Go.Deep.open_slice Try.underlying49 hf with ⟨hcs, _⟩ | ⟨x, l, c, m, n, D, Pl, hcs, _, hl, hm, hmm, _, hi⟩
  · simp at hcs
    exact .inl hcs
  · simp at hcs
    obtain ⟨rfl, rfl, rfl⟩ := hcs
    simp only [if_true] at hmm
    subst hmm
    refine .inr ⟨x, rfl, hl, hm, fun i him => ?_⟩
    obtain ⟨cs', hc, ht⟩ := hi i him
    rw [hC] at hc
    obtain ⟨_, hcl, hat⟩ := World.cells?_some hc
    obtain ⟨o, l, c, s, rfl, w0, w1, w2, w3⟩ := trod_com ht
    exact ⟨pos3_cells hat (by omega) ⟨_, rfl⟩ w0 w1 w2, s, hat 3 (by omega), w3⟩
theorem IsComs.ofTrod (h : DataW.Trod enc Try.prog w 0 (fun _ => true) held 49 (.slice a len cap) d p) : IsComs w a len cap := by
  obtain ⟨fuel, hf⟩ := h
  exact IsComs.of hf
theorem IsSts.ofTrod (h : DataW.Trod enc Try.prog w 0 (fun _ => true) held 48 (.slice a len cap) d p) : IsSts w a len cap := by
  obtain ⟨fuel, hf⟩ := h
  have hC : Try.prog.cellsOf 118 = 4 := by kernel_rfl
  rcases Go.Deep.open_slice Try.underlying48 hf with ⟨hcs, _⟩ | ⟨x, l, c, m, n, D, Pl, hcs, _, hl, hm, hmm, _, hi⟩
  · simp [Value.cells] at hcs
    exact .inl hcs
  · simp [Value.cells] at hcs
    obtain ⟨rfl, rfl, rfl⟩ := hcs
    simp only [if_true] at hmm
    subst hmm
    refine .inr ⟨x, rfl, hl, hm, fun i him => ?_⟩
    obtain ⟨cs', hc, ht⟩ := hi i him
    rw [hC] at hc
    obtain ⟨_, hcl, hat⟩ := World.cells?_some hc
    obtain ⟨o, l, c, v, m, z, rfl, w0, w1, w2, hz⟩ := trod_st ht
    have hv : ∃ a len cap, v = .slice a len cap := by
      rcases Go.Deep.open_slice Try.underlying49 hz with ⟨hcs, _⟩ | ⟨x, l, c, m, n, D, Pl, hcs, _⟩
      · simp at hcs
        exact ⟨_, _, _, hcs⟩
      · simp at hcs
        exact ⟨_, _, _, hcs⟩
    obtain ⟨a', len', cap', rfl⟩ := hv
    exact ⟨pos3_cells hat (by omega) ⟨_, rfl⟩ w0 w1 w2, a', len', cap', hat 3 (by omega), IsComs.of hz⟩
end
end Go.Proofs.Ytimaobpcefgdkaa
