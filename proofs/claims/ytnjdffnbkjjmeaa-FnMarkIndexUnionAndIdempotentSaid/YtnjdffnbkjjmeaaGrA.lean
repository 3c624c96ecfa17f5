/- The two appends of the builder, as laws at the operation. -/
import Derived.Test.YtnjdffnbkjjmeaaGrow
import Derived.Maps.AppendAt
namespace Go.Proofs.Ytnjdffnbkjjmeaa
open Go.RowKit
section
variable {W : World} {bb : Nat} {cA : Option Addr} {cn cc pos : Nat} {A1 : Option Addr} {n1 c1 : Nat} {A2 : Option Addr} {n2 c2 : Nat} {vs : List Value} {ws : List Bool}
theorem Gr.app' {n : Nat} {w2 : World} {o : Obj} {e : TypeId} {v : Value} {xs : List Value} (ho : (W.alloc o).ownsRow bb e 1 v n xs) (he : ∀ t te, NdT t te → te ≠ e) (hg : (W.alloc o).grownBy w2 v.ownBlock) (hB : bb ≤ W.heap.size) : Gr bb W w2 :=
  ((Gr.refl bb W).alloc hB o).app ho he hg (by simp; omega)
theorem wpList_nodes {ops : Array Oper} {rest : List Oper} {o : Oper} {a : Act} {Q : Exit → Act → World → Prop} (hgd : o.guard = none) (s x : Operand)
    (ho : o.op = .call { callee := .builtin .append, args := #[s, x], argTypes := #[109, 109] }) (h : BS W bb cA cn cc pos A1 n1 c1 A2 n2 c2 vs ws) (hn : n1 ≤ 8192) {v : Value} (hv : v.oneCell' = true)
    (hs : a.eval s = .slice A1 n1 c1) (hx : a.eval x = .slice (some ⟨W.heap.size, 0, none⟩) 1 1)
    (hK : ∀ (g c : Nat) (w2 : World), Bk w2 bb 111 #[.slice cA cn cc, .int .i64 pos, .slice A1 n1 c1, .slice A2 n2 c2] → BS (w2.setCell ⟨bb, 2, none⟩ (.slice (some ⟨g, 0, none⟩) (n1 + 1) c)) bb cA cn cc pos (some ⟨g, 0, none⟩) (n1 + 1) c A2 n2 c2 (vs ++ [v]) ws →
      Gr bb W w2 → wpList Try.prog ops Q rest (a.put o.dst (.slice (some ⟨g, 0, none⟩) (n1 + 1) c)) w2) :
    wpList Try.prog ops Q (o :: rest) a (W.alloc (.cells #[v] 78)) := by
  obtain ⟨i0, hi, hz0, hz1, hz2⟩ := info_parts infoArith
  have hl := h.bk.lt
  refine wpList_append_own _ hgd s x 109 ho bb 78 i0 .nilIface 1 16 Try.underlying109 hi hz0 hz1 hz2 rfl (by decide) (.slice A1 n1 c1) n1 vs hs (h.alloc _).o1 ⟨W.heap.size, 0, none⟩ 1 1 [v] hx rfl (news_one (Bk.fresh _ _ _)) (by simpa using hv) (by unfold maxLen; omega) (by omega) (by simp; omega) ?_
  intro v2 w2 ho2 hg2 _
  obtain ⟨g, c, rfl, k2, hb2⟩ := (h.alloc _).app1 ho2 hg2
  exact hK g c w2 k2 hb2 (Gr.app' (h.alloc _).o1 (nd_ne (by decide)) hg2 (by omega))
theorem wpList_wants {ops : Array Oper} {rest : List Oper} {o : Oper} {a : Act} {Q : Exit → Act → World → Prop} (hgd : o.guard = none) (s x : Operand)
    (ho : o.op = .call { callee := .builtin .append, args := #[s, x], argTypes := #[26, 26] }) (h : BS W bb cA cn cc pos A1 n1 c1 A2 n2 c2 vs ws) (hn : n2 ≤ 8192) {q : Bool}
    (hs : a.eval s = .slice A2 n2 c2) (hx : a.eval x = .slice (some ⟨W.heap.size, 0, none⟩) 1 1)
    (hK : ∀ (g c : Nat) (w2 : World), Bk w2 bb 111 #[.slice cA cn cc, .int .i64 pos, .slice A1 n1 c1, .slice A2 n2 c2] → BS (w2.setCell ⟨bb, 3, none⟩ (.slice (some ⟨g, 0, none⟩) (n2 + 1) c)) bb cA cn cc pos A1 n1 c1 (some ⟨g, 0, none⟩) (n2 + 1) c vs (ws ++ [q]) →
      Gr bb W w2 → wpList Try.prog ops Q rest (a.put o.dst (.slice (some ⟨g, 0, none⟩) (n2 + 1) c)) w2) :
    wpList Try.prog ops Q (o :: rest) a (W.alloc (.cells #[.bool q] 4)) := by
  obtain ⟨i0, hi, hz0, hz1, hz2⟩ := info_parts infoBool
  have hl := h.bk.lt
  refine wpList_append_own _ hgd s x 26 ho bb 4 i0 (.bool false) 1 1 Try.underlying26 hi hz0 hz1 hz2 rfl (by decide) (.slice A2 n2 c2) n2 (ws.map Value.bool) hs (h.alloc _).o2 ⟨W.heap.size, 0, none⟩ 1 1 [.bool q] hx rfl (news_one (Bk.fresh _ _ _)) (by simp [Value.oneCell']) (by unfold maxLen; omega) (by omega) (by simp; omega) ?_
  intro v2 w2 ho2 hg2 _
  obtain ⟨g, c, rfl, k2, hb2⟩ := (h.alloc _).app2 ho2 hg2
  exact hK g c w2 k2 hb2 (Gr.app' (h.alloc _).o2 (nd_ne (by decide)) hg2 (by omega))
end
end Go.Proofs.Ytnjdffnbkjjmeaa
