/- The parser of the two laws over fmt: its cells; errPass, Incomplete. -/
import Derived.Test.YtimaobpcefgdkaaFmtSpf
import Derived.Laws.Tables
import Derived.Deep.Cut
import Derived.BigQuiet
namespace Go.Proofs.YtimaobpcefgdkaaFmt
open Go.RowKit
/-- What is told of a parser: its file and the file's name, its error, its token, whether nesting is forbidden, its language. -/
def PP (W : World) (b fp : Nat) (nm : ByteArray) (er : Value) (tk : Int) (fb : Bool) (lg : Int) : Prop :=
  ∃ (cs : Array Value) (v2 v3 v4 : Int), Bk W b 65 cs ∧ W.cell? ⟨fp, 0, none⟩ = some (.string nm) ∧ fp ≠ b ∧ cs[1]? = some (.slice none 0 0) ∧ cs[2]? = some (.int .u64 v2) ∧ cs[3]? = some (.int .i32 v3) ∧ cs[4]? = some (.int .i64 v4) ∧
    cs[5]? = some (.pointer (some ⟨fp, 0, none⟩)) ∧ cs[7]? = some er ∧ cs[10]? = some (.int .u32 tk) ∧ cs[20]? = some (.int .i64 lg) ∧ cs[24]? = some (.bool fb) ∧ cs[29]? = some (.int .i64 0) ∧ cs[2087]? = some (.slice none 0 0)
section
variable {W W1 : World} {b fp : Nat} {nm : ByteArray} {er : Value} {tk : Int} {fb : Bool} {lg : Int}
theorem PP.lt (h : PP W b fp nm er tk fb lg) : b < W.heap.size ∧ fp < W.heap.size := by
  obtain ⟨cs, v2, v3, v4, hk, hf, _⟩ := h
  exact ⟨hk.lt, World.block_lt_of_cell? _ _ hf⟩
theorem PP.keep (h : PP W b fp nm er tk fb lg) (hb : Below W.heap.size W W1) : PP W1 b fp nm er tk fb lg := by
  have hl := h.lt.2
  obtain ⟨cs, v2, v3, v4, hk, hf, hr⟩ := h
  exact ⟨cs, v2, v3, v4, hk.keep hb, (hb.cell hl).trans hf, hr⟩
theorem PP.drew (h : PP W b fp nm er tk fb lg) : PP W.drew b fp nm er tk fb lg := h.keep ⟨rfl, rfl, rfl, Nat.le_refl _, fun _ _ => rfl⟩
theorem PP.drewN (h : PP W b fp nm er tk fb lg) (n : Nat) : PP (W.drewN n) b fp nm er tk fb lg := h.keep ⟨rfl, rfl, rfl, Nat.le_refl _, fun _ _ => rfl⟩
theorem PP.alloc (h : PP W b fp nm er tk fb lg) (o : Obj) : PP (W.alloc o) b fp nm er tk fb lg := h.keep ((Below.refl _ _).alloc (Nat.le_refl _) o)
theorem PP.c5 (h : PP W b fp nm er tk fb lg) : W.cell? ⟨b, 5, none⟩ = some (.pointer (some ⟨fp, 0, none⟩)) := by
  obtain ⟨cs, v2, v3, v4, hk, _, _, _, _, _, _, h5, _⟩ := h
  rw [hk.cells, h5]
theorem PP.cf (h : PP W b fp nm er tk fb lg) : W.cell? ⟨fp, 0, none⟩ = some (.string nm) := by
  obtain ⟨cs, v2, v3, v4, _, hf, _⟩ := h
  exact hf
theorem PP.c7 (h : PP W b fp nm er tk fb lg) : W.cell? ⟨b, 7, none⟩ = some er := by
  obtain ⟨cs, v2, v3, v4, hk, _, _, _, _, _, _, _, h7, _⟩ := h
  rw [hk.cells, h7]
theorem PP.c10 (h : PP W b fp nm er tk fb lg) : W.cell? ⟨b, 10, none⟩ = some (.int .u32 tk) := by
  obtain ⟨cs, v2, v3, v4, hk, _, _, _, _, _, _, _, _, h10, _⟩ := h
  rw [hk.cells, h10]
theorem PP.c20 (h : PP W b fp nm er tk fb lg) : W.cell? ⟨b, 20, none⟩ = some (.int .i64 lg) := by
  obtain ⟨cs, v2, v3, v4, hk, _, _, _, _, _, _, _, _, _, h20, _⟩ := h
  rw [hk.cells, h20]
theorem PP.c24 (h : PP W b fp nm er tk fb lg) : W.cell? ⟨b, 24, none⟩ = some (.bool fb) := by
  obtain ⟨cs, v2, v3, v4, hk, _, _, _, _, _, _, _, _, _, _, h24, _⟩ := h
  rw [hk.cells, h24]
theorem PP.c29 (h : PP W b fp nm er tk fb lg) : W.cell? ⟨b, 29, none⟩ = some (.int .i64 0) ∧ W.cell? ⟨b, 2087, none⟩ = some (.slice none 0 0) := by
  obtain ⟨cs, v2, v3, v4, hk, _, _, _, _, _, _, _, _, _, _, _, h29, h87⟩ := h
  rw [hk.cells, hk.cells]
  exact ⟨h29, h87⟩
end
set_option maxRecDepth 100000 in
theorem incomplete_no {W : World} {b fp : Nat} {nm : ByteArray} {er : Value} {tk : Int} {fb : Bool} {lg : Int} (h : PP W b fp nm er tk fb lg) :
    Calls Tryf.prog 25 #[.pointer (some ⟨b, 0, none⟩)] W fun e w' => e = .returned (.bool false) ∧ W = w' := by
  obtain ⟨c29, c87⟩ := h.c29
  clear h
  go_enter Tryf.func25, Tryf.ntmps25
  go_wp2
  go_ret
  exact ⟨rfl, rfl⟩
set_option maxRecDepth 100000 in
theorem errPass_some {W : World} {b fp : Nat} {nm : ByteArray} {t : TypeId} {x : Value} {tk : Int} {fb : Bool} {lg : Int} (h : PP W b fp nm (.iface t x) tk fb lg) (t2 : TypeId) (x2 : Value) :
    Calls Tryf.prog 21 #[.pointer (some ⟨b, 0, none⟩), .iface t2 x2] W fun e w' => e = .returned (.tuple #[]) ∧ W = w' := by
  have c7 := h.c7
  clear h
  go_enter Tryf.func21, Tryf.ntmps21
  go_wp2
  go_end0
  exact ⟨rfl, rfl⟩
theorem only_set {a w : World} {g : Nat} (h : a.grownBy w (some g)) (i : Nat) (u : Value) : a.grownBy (w.setCell ⟨g, i, none⟩ u) (some g) :=
  ⟨h.os, h.tape, h.output, by simpa [World.setCell] using h.size, fun k hk hne => (Below.heap_setCell w ⟨g, i, none⟩ u k (by
    rintro rfl
    exact hne rfl)).trans (h.block k hk hne)⟩
set_option maxHeartbeats 1000000 in
set_option maxRecDepth 100000 in
theorem errPass_nil {W : World} {b fp : Nat} {nm : ByteArray} {tk : Int} {fb : Bool} {lg : Int} (h : PP W b fp nm .nilIface tk fb lg) (t2 : TypeId) (x2 : Value) :
    Calls Tryf.prog 21 #[.pointer (some ⟨b, 0, none⟩), .iface t2 x2] W fun e w' => e = .returned (.tuple #[]) ∧ PP w' b fp nm (.iface t2 x2) 1 fb lg ∧ W.grownBy w' (some b) := by
  obtain ⟨cs, v2, v3, v4, hk, hf, hne, h1, h2, h3, h4, h5, h7, h10, h20, h24, h29, h87⟩ := h
  have l87 := (Array.getElem?_eq_some_iff.1 h87).1
  have c1 : W.cell? ⟨b, 1, none⟩ = some (.slice none 0 0) := by rw [hk.cells, h1]
  have c2 : W.cell? ⟨b, 2, none⟩ = some (.int .u64 v2) := by rw [hk.cells, h2]
  have c3 : W.cell? ⟨b, 3, none⟩ = some (.int .i32 v3) := by rw [hk.cells, h3]
  have c4 : W.cell? ⟨b, 4, none⟩ = some (.int .i64 v4) := by rw [hk.cells, h4]
  have c7 : W.cell? ⟨b, 7, none⟩ = some .nilIface := by rw [hk.cells, h7]
  have c10 : W.cell? ⟨b, 10, none⟩ = some (.int .u32 tk) := by rw [hk.cells, h10]
  have hfz := hk.frz
  have hlt := hk.lt
  have HF : Hid (∀ (w' : World), W.grownBy w' (some b) → w'.cell? ⟨fp, 0, none⟩ = some (.string nm)) := fun w' hg => hg.cell hf (by
    intro e
    injection e with e
    exact hne e)
  have HK := Lib.hid hk
  have H : Hid (fp ≠ b ∧ cs[1]? = some (.slice none 0 0) ∧ cs[5]? = some (.pointer (some ⟨fp, 0, none⟩)) ∧ cs[20]? = some (.int .i64 lg) ∧ cs[24]? = some (.bool fb) ∧ cs[29]? = some (.int .i64 0) ∧ cs[2087]? = some (.slice none 0 0) ∧ 2087 < cs.size) := Lib.hid ⟨hne, h1, h5, h20, h24, h29, h87, l87⟩
  clear hf hne h1 h2 h3 h4 h5 h7 h10 h20 h24 h29 h87 l87 hk
  go_enter Tryf.func21, Tryf.ntmps21
  go_wp2
  go_end0
  obtain ⟨hne, h1, h5, h20, h24, h29, h87, l87⟩ := H.out
  have hG : W.grownBy (((((W.setCell ⟨b, 7, none⟩ (.iface t2 x2)).setCell ⟨b, 2, none⟩ (.int .u64 1)).setCell ⟨b, 3, none⟩ (.int .i32 1114112)).setCell ⟨b, 4, none⟩ (.int .i64 1)).setCell ⟨b, 10, none⟩ (.int .u32 1)) (some b) :=
    only_set (only_set (only_set (only_set (only_set (grown_of_below (Below.refl _ _) _) _ _) _ _) _ _) _ _) _ _
  refine ⟨rfl, ⟨_, 1, 1114112, 1, (((((HK.out.put 7 _).put 2 _).put 3 _).put 4 _).put 10 _), HF.out _ hG, hne, ?_, ?_, ?_, ?_, ?_, ?_, ?_, ?_, ?_, ?_, ?_⟩, hG⟩
  all_goals (simp [Array.getElem?_setIfInBounds, h1, h5, h20, h24, h29, h87]; try omega)
end Go.Proofs.YtimaobpcefgdkaaFmt
