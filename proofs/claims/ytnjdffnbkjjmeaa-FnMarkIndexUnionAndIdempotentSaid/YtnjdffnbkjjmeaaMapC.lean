/- The simplifier's small functions over its map of kept nodes. -/
import Derived.Test.YtnjdffnbkjjmeaaMap
namespace Go.Proofs.Ytnjdffnbkjjmeaa
open Go.RowKit
/-- A simplifier of the call's own: nothing modified, the kept nodes are ks. -/
def SimpIs (W : World) (s mb : Nat) (ks : List Value) : Prop := Bk W s 167 #[.bool false, .map (some mb)] ∧ MapIs W mb ks
theorem SimpIs.keep {W W1 : World} {s mb : Nat} {ks : List Value} (h : SimpIs W s mb ks) (hb : Below W.heap.size W W1) : SimpIs W1 s mb ks := ⟨h.1.keep hb, h.2.keep hb⟩
theorem newSimp (w : World) : Calls Try.prog 49 #[] w fun e w' => ∃ s mb : Nat, e = .returned (.pointer (some ⟨s, 0, none⟩)) ∧ SimpIs w' s mb [] ∧ Below w.heap.size w w' ∧ w.heap.size ≤ mb := by
  have hmm := run_makeMap (P := Try.prog) 165 w
  go_enter Try.func49, Try.ntmps49
  go_wp2
  go_ret
  have hM := (MapIs.made w).keep (W1 := (w.alloc (.map #[] 0)).alloc (.cells #[.bool false, .map (some w.heap.size)] 167)) ((Below.refl _ _).alloc (Nat.le_refl _) _)
  exact ⟨_, _, rfl, ⟨by simpa using Bk.fresh (w.alloc (.map #[] 0)) 167 #[.bool false, .map (some w.heap.size)], hM⟩, by go_grown, Nat.le_refl _⟩
set_option maxRecDepth 20000 in
theorem keptCount {W : World} {s mb : Nat} {ks : List Value} (h : SimpIs W s mb ks) : Calls Try.prog 51 #[.pointer (some ⟨s, 0, none⟩)] W fun e w' => e = .returned (.int .i64 ks.length) ∧ W = w' := by
  obtain ⟨es, clock, hm, rfl, _⟩ := h.2
  have c1 : W.cell? ⟨s, 1, none⟩ = some (.map (some mb)) := by rw [h.1.cells]; rfl
  have hl : ∀ ty, (Builtin.len_ #[165] ty #[.map (some mb)]).run Try.prog W = .ok (.int .i64 es.size) W := fun ty => run_len_map W _ ty mb es clock (by kernel_rfl) hm
  go_enter Try.func51, Try.ntmps51
  go_wp2
  go_ret
  exact ⟨by simp, rfl⟩
theorem modified_no {W : World} {s mb : Nat} {ks : List Value} (h : SimpIs W s mb ks) : Calls Try.prog 54 #[.pointer (some ⟨s, 0, none⟩)] W fun e w' => e = .returned (.bool false) ∧ W = w' := by
  have c1 : W.cell? ⟨s, 0, none⟩ = some (.bool false) := by rw [h.1.cells]; rfl
  go_enter Try.func54, Try.ntmps54
  go_wp2
  go_ret
  exact ⟨rfl, rfl⟩
theorem kept_ {W : World} {s mb : Nat} {ks : List Value} {v : Value} (h : SimpIs W s mb ks) (hk : ∀ k ∈ ks, Nd W k) (hv : Nd W v) : Calls Try.prog 52 #[.pointer (some ⟨s, 0, none⟩), v] W fun e w' => (∃ b : Bool, e = .returned (.bool b) ∧ (b = true ↔ v ∈ ks)) ∧ W = w' := by
  obtain ⟨b, hrun, hb⟩ := map_look h.2 hk hv
  have c1 : W.cell? ⟨s, 1, none⟩ = some (.map (some mb)) := by rw [h.1.cells]; rfl
  obtain ⟨t, te, a, cs, rfl, _⟩ := hv
  go_enter Try.func52, Try.ntmps52
  go_wp2
  go_ret
  exact ⟨⟨b, rfl, hb⟩, rfl⟩
end Go.Proofs.Ytnjdffnbkjjmeaa
