/- Slices of bools and of strings that came in, told by an index function. -/
import Derived.Test.YtaampofbcbophaaSrc
import Derived.Deep.Grids
import Derived.Deep.Strs
namespace Go.Proofs.Ytaampofbcbophaa
open Go.RowKit
def IsBools (w : World) (a : Option Addr) (len cap : Nat) (B : Nat → Bool) : Prop :=
  (a = none ∧ len = 0 ∧ cap = 0) ∨ ∃ x, a = some x ∧ len ≤ cap ∧ cap ≤ maxLen ∧ ∀ i, i < cap → w.cell? (x.add i) = some (.bool (B i))
def IsStrs (w : World) (a : Option Addr) (len cap : Nat) (S : Nat → ByteArray) : Prop :=
  (a = none ∧ len = 0 ∧ cap = 0) ∨ ∃ x, a = some x ∧ len ≤ cap ∧ cap ≤ maxLen ∧ ∀ i, i < cap → w.cell? (x.add i) = some (.string (S i)) ∧ (S i).size ≤ maxLen
section
variable {H : Type} {enc : TypeId × Value → H} {P : Program} {w : World} {held : Bool} {t e : TypeId} {a : Option Addr} {len cap : Nat} {d : DataW H} {p : List MemPlace}
theorem IsBools.of (ht : P.underlying t = some (.slice e)) (he : P.underlying e = some .bool) (hc : P.cellsOf e = 1) (h : DataW.Trod enc P w 0 (fun _ => true) held t (.slice a len cap) d p) : ∃ B, IsBools w a len cap B := by
  obtain ⟨fuel, hf⟩ := h
  rcases Go.Deep.open_bools ht he hc hf with ⟨hcs, _⟩ | ⟨x, l, c, B, hcs, _, hl, hm, _, hcell⟩
  · simp [Value.cells] at hcs
    obtain ⟨rfl, rfl, rfl⟩ := hcs
    exact ⟨fun _ => false, .inl ⟨rfl, rfl, rfl⟩⟩
  · simp [Value.cells] at hcs
    obtain ⟨rfl, rfl, rfl⟩ := hcs
    exact ⟨B, .inr ⟨_, rfl, hl, hm, hcell⟩⟩
theorem IsStrs.of (ht : P.underlying t = some (.slice e)) (he : P.underlying e = some .string) (hc : P.cellsOf e = 1) (h : DataW.Trod enc P w 0 (fun _ => true) held t (.slice a len cap) d p) : ∃ S, IsStrs w a len cap S := by
  obtain ⟨fuel, hf⟩ := h
  rcases Go.Deep.open_strs ht he hc hf with ⟨hcs, _⟩ | ⟨x, l, c, m, S, hcs, _, hl, hm, hmm, _, hcell⟩
  · simp [Value.cells] at hcs
    obtain ⟨rfl, rfl, rfl⟩ := hcs
    exact ⟨fun _ => ByteArray.empty, .inl ⟨rfl, rfl, rfl⟩⟩
  · simp [Value.cells] at hcs
    obtain ⟨rfl, rfl, rfl⟩ := hcs
    simp only [if_true] at hmm
    subst hmm
    exact ⟨S, .inr ⟨_, rfl, hl, hm, hcell⟩⟩
end
theorem IsBools.src {w : World} {a : Option Addr} {len cap : Nat} {B : Nat → Bool} (h : IsBools w a len cap B) : Src w a len (fun i => .bool (B i)) := by
  rcases h with ⟨rfl, rfl, _⟩ | ⟨x, rfl, h1, _, h3⟩
  · exact .inl ⟨rfl, rfl⟩
  · exact .inr ⟨x, rfl, fun i hi => h3 i (by omega)⟩
theorem IsStrs.src {w : World} {a : Option Addr} {len cap : Nat} {S : Nat → ByteArray} (h : IsStrs w a len cap S) : Src w a len (fun i => .string (S i)) := by
  rcases h with ⟨rfl, rfl, _⟩ | ⟨x, rfl, h1, _, h3⟩
  · exact .inl ⟨rfl, rfl⟩
  · exact .inr ⟨x, rfl, fun i hi => (h3 i (by omega)).1⟩
theorem IsBools.len {w : World} {a : Option Addr} {len cap : Nat} {B : Nat → Bool} (h : IsBools w a len cap B) : len ≤ cap ∧ cap ≤ 9223372036854775807 := by
  rcases h with ⟨_, rfl, rfl⟩ | ⟨x, _, h1, h2, _⟩
  · simp
  · unfold maxLen at h2; exact ⟨h1, h2⟩
theorem IsStrs.len {w : World} {a : Option Addr} {len cap : Nat} {S : Nat → ByteArray} (h : IsStrs w a len cap S) : len ≤ cap ∧ cap ≤ 9223372036854775807 := by
  rcases h with ⟨_, rfl, rfl⟩ | ⟨x, _, h1, h2, _⟩
  · simp
  · unfold maxLen at h2; exact ⟨h1, h2⟩
theorem IsStrs.each {w : World} {a : Option Addr} {len cap : Nat} {S : Nat → ByteArray} (h : IsStrs w a len cap S) {i : Nat} (hi : i < len) : (S i).size ≤ 9223372036854775807 := by
  rcases h with ⟨_, rfl, _⟩ | ⟨x, _, h1, h2, h3⟩
  · omega
  · have := (h3 i (by omega)).2; unfold maxLen at this; exact this
theorem IsBools.nilcap {w : World} {len cap : Nat} {B : Nat → Bool} (h : IsBools w none len cap B) : len = 0 ∧ cap = 0 := by
  rcases h with ⟨_, h1, h2⟩ | ⟨x, h, _⟩
  · exact ⟨h1, h2⟩
  · cases h
theorem IsStrs.nilcap {w : World} {len cap : Nat} {S : Nat → ByteArray} (h : IsStrs w none len cap S) : len = 0 ∧ cap = 0 := by
  rcases h with ⟨_, h1, h2⟩ | ⟨x, h, _⟩
  · exact ⟨h1, h2⟩
  · cases h
end Go.Proofs.Ytaampofbcbophaa
