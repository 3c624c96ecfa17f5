/- A step law for 'append' with room, inside a region that draws its order; a row seen through a shorter slice. -/
import Derived.Test.YtnjdffnbkjjmeaaRow
import Derived.OwnWalk
import Derived.Deep.RegionHeld3
import Derived.Deep.RegionLaw
namespace Go.Proofs.Ytnjdffnbkjjmeaa
open Go.RowKit
theorem step_append_fits {P : Program} (w : World) {ops : Array Oper} {o : Oper} {a : Act} {K : Act → World → Prop} {Q : Exit → Act → World → Prop} {E : Prop}
    (hg : o.guard = none) (s x : Operand) (t : TypeId) (hop : o.op = Op.call { callee := Callee.builtin Builtin.append, args := #[s, x], argTypes := #[t, t] })
    (base : Nat) (e : TypeId) (i : TypeInfo) (size : Nat) (h1 : P.underlying t = some (.slice e)) (h2 : P.info? e = some i) (h4 : i.size = size)
    (g k cap : Nat) (xs : List Value) (hs : a.eval s = .slice (some ⟨g, 0, none⟩) k cap) (hown : w.ownsRow base e size (.slice (some ⟨g, 0, none⟩) k cap) k xs) (ad : Addr) (m c : Nat) (news : List Value) (hx : a.eval x = .slice (some ad) m c) (hn : news.length = m * size)
    (hc : ∀ j u, news[j]? = some u → w.cell? (ad.add j) = some u) (h1c : ∀ u ∈ news, u.oneCell' = true) (b1 : k + m ≤ cap)
    (hK : ∀ w', w'.ownsRow base e size (.slice (some ⟨g, 0, none⟩) (k + m) cap) (k + m) (xs ++ news) → w.grownBy w' (some g) → K (a.put o.dst (.slice (some ⟨g, 0, none⟩) (k + m) cap)) w') :
    if Region.wanted o (yielded ops a.tmps) = true then Oper.wp P o a w K Q else E := by
  have hw : Region.wanted o (yielded ops a.tmps) = true := by simp [Region.wanted, hg]
  rw [if_pos hw]
  obtain ⟨w', hrun, r1, r2⟩ := run_append_fits (P := P) w base t o.type e i size h1 h2 h4 g k cap xs hown ad m c news hn hc h1c b1
  unfold Oper.wp
  simp [execOp, hop, resolve, invoke, builtin, hs, hx, hrun, Result.andThen]
  exact hK w' r1 r2
theorem own_less {w : World} {base g k cap : Nat} {e : TypeId} {xs : List Value} {v : Value} (h : w.ownsRow base e 1 (.slice (some ⟨g, 0, none⟩) (k + 1) cap) (k + 1) (xs ++ [v])) (hl : xs.length = k) : w.ownsRow base e 1 (.slice (some ⟨g, 0, none⟩) k cap) k xs := by
  refine ⟨by simpa using hl, ?_⟩
  rcases h.2 with ⟨h', _⟩ | ⟨g', cap', cur, h', hb, hg, h1, h2, h3, h4⟩
  · cases h'
  · injection h' with e1 e2 e3
    injection e1 with e1
    injection e1 with e1
    subst e1 e3
    refine .inr ⟨g, cap, cur, rfl, hb, hg, by omega, h2, h3, ?_⟩
    have h5 : (cur.toList.take ((k + 1) * 1)).take (k * 1) = (xs ++ [v]).take (k * 1) := by rw [h4]
    rw [List.take_take] at h5
    have h6 : min (k * 1) ((k + 1) * 1) = k * 1 := by omega
    rw [h6] at h5
    rw [h5]
    simp [hl]
/-- Behind an append with room the row is still what it was, seen through the old slice. -/
theorem RowOf.less {W w1 : World} {base g k n : Nat} {e : TypeId} {El : Nat → Value → World → Prop} {xs : List Value} {v : Value} (he : ∀ j u, xs[j]? = some u → El j u W) (hl : xs.length = k)
    (ho : w1.ownsRow base e 1 (.slice (some ⟨g, 0, none⟩) (k + 1) n) (k + 1) (xs ++ [v])) (hE : ∀ j u, El j u W → El j u w1) : RowOf w1 base g e k n El :=
  ⟨xs, own_less ho hl, fun j u hj => hE j u (he j u hj)⟩
theorem own_ll {w : World} {base k : Nat} {e : TypeId} {v : Value} {xs : List Value} (h : w.ownsRow base e 1 v k xs) : xs.length = k := by simpa using h.1
theorem cell_grown {w w' : World} {g : Nat} {p : Addr} {v : Value} (hb : w.grownBy w' (some g)) (h : w.cell? p = some v) (hne : p.block ≠ g) : w'.cell? p = some v :=
  (World.cell?_of_block (hb.block p.block (World.block_lt_of_cell? _ _ h) (fun e => hne (by injection e)))).trans h
end Go.Proofs.Ytnjdffnbkjjmeaa
