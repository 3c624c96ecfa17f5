/- zzBuildPart, and Parser.unquotedWordPart at every part that it builds. -/
import Derived.Test.YtnjdffnbkjjmeaaUnq
import Derived.Test.YtnjdffnbkjjmeaaLEsc
namespace Go.Proofs.Ytnjdffnbkjjmeaa
open Go.RowKit Go.PlainAid
/-- v is the part of kind k (modulo 5) over the text s; its blocks lie at lo and above. -/
def PartU (lo : Nat) (k : Int) (s : ByteArray) (v : Value) (W : World) : Prop :=
  (k = 0 ∧ ∃ b : Nat, v = .iface 64 (.pointer (some ⟨b, 0, none⟩)) ∧ W.cell? ⟨b, 4, none⟩ = some (.string s) ∧ lo ≤ b) ∨
  (k = 1 ∧ ∃ b : Nat, v = .iface 211 (.pointer (some ⟨b, 0, none⟩)) ∧ W.cell? ⟨b, 5, none⟩ = some (.string s) ∧ lo ≤ b) ∨
  (k = 2 ∧ ∃ b g l : Nat, v = .iface 123 (.pointer (some ⟨b, 0, none⟩)) ∧ W.cell? ⟨b, 5, none⟩ = some (.slice (some ⟨g, 0, none⟩) 1 1) ∧ W.cell? ⟨g, 0, none⟩ = some (.iface 64 (.pointer (some ⟨l, 0, none⟩))) ∧ W.cell? ⟨l, 4, none⟩ = some (.string s) ∧ lo ≤ b ∧ lo ≤ g ∧ lo ≤ l) ∨
  (k = 3 ∧ ∃ b : Nat, v = .iface 122 (.pointer (some ⟨b, 0, none⟩))) ∨
  (k = 4 ∧ ∃ b g p l : Nat, v = .iface 123 (.pointer (some ⟨b, 0, none⟩)) ∧ W.cell? ⟨b, 5, none⟩ = some (.slice (some ⟨g, 0, none⟩) 2 2) ∧ W.cell? ⟨g, 0, none⟩ = some (.iface 122 (.pointer (some ⟨p, 0, none⟩))) ∧ W.cell? ⟨g, 1, none⟩ = some (.iface 64 (.pointer (some ⟨l, 0, none⟩))) ∧ W.cell? ⟨l, 4, none⟩ = some (.string s) ∧ lo ≤ b ∧ lo ≤ g ∧ lo ≤ l)
/-- What holds of the cells of a part in W holds in W1, if all cells above lo read the same. -/
theorem PartU.move {lo : Nat} {k : Int} {s : ByteArray} {v : Value} {W W1 : World} (h : PartU lo k s v W) (hc : ∀ p u, lo ≤ p.block → W.cell? p = some u → W1.cell? p = some u) : PartU lo k s v W1 := by
  rcases h with ⟨h, b, e, h1, l1⟩ | ⟨h, b, e, h1, l1⟩ | ⟨h, b, g, l, e, h1, h2, h3, l1, l2, l3⟩ | ⟨h, b, e⟩ | ⟨h, b, g, p, l, e, h1, h2, h3, h4, l1, l2, l3⟩
  · exact .inl ⟨h, b, e, hc _ _ l1 h1, l1⟩
  · exact .inr (.inl ⟨h, b, e, hc _ _ l1 h1, l1⟩)
  · exact .inr (.inr (.inl ⟨h, b, g, l, e, hc _ _ l1 h1, hc _ _ l2 h2, hc _ _ l3 h3, l1, l2, l3⟩))
  · exact .inr (.inr (.inr (.inl ⟨h, b, e⟩)))
  · exact .inr (.inr (.inr (.inr ⟨h, b, g, p, l, e, hc _ _ l1 h1, hc _ _ l2 h2, hc _ _ l2 h3, hc _ _ l3 h4, l1, l2, l3⟩)))
theorem PartU.keep {lo : Nat} {k : Int} {s : ByteArray} {v : Value} {W W1 : World} (h : PartU lo k s v W) (hb : Below W.heap.size W W1) : PartU lo k s v W1 := h.move (fun _ _ _ hc => keepc hb hc)
theorem PartU.grown {lo : Nat} {k : Int} {s : ByteArray} {v : Value} {W W1 : World} {g : Nat} (h : PartU lo k s v W) (hb : W.grownBy W1 (some g)) (hg : g < lo) : PartU lo k s v W1 :=
  h.move (fun p _ hl hc => hb.cell hc (by intro e; injection e with e; omega))
theorem u_bound (k : Int) (hk : 0 ≤ k ∧ k ≤ 255) : (k.tmod 5 = 0 ∨ k.tmod 5 = 1 ∨ k.tmod 5 = 2 ∨ k.tmod 5 = 3 ∨ k.tmod 5 = 4) ∧ k.tmod 5 = k % 5 := by
  rw [Int.tmod_eq_emod_of_nonneg hk.1]
  exact ⟨by omega, rfl⟩
set_option maxHeartbeats 1000000 in
set_option maxRecDepth 100000 in
theorem buildPart_any (k : Int) (hk : 0 ≤ k ∧ k ≤ 255) (s : ByteArray) (w : World) :
    Calls Try.prog 84 #[.int .u8 k, .string s] w fun e w' => ∃ t b, e = .returned (.iface t (.pointer (some ⟨b, 0, none⟩))) ∧ PartU w.heap.size (k % 5) s (.iface t (.pointer (some ⟨b, 0, none⟩))) w' ∧ Below w.heap.size w w' := by
  obtain ⟨m, hm⟩ : ∃ m, m = k % 5 := ⟨_, rfl⟩
  have hc : m = 0 ∨ m = 1 ∨ m = 2 ∨ m = 3 ∨ m = 4 := by omega
  have k0 : 0 ≤ k := hk.1
  have k1 : k ≤ 255 := hk.2
  rw [← hm]
  have HM := Lib.hid hm
  clear hm hk
  rcases hc with rfl | rfl | rfl | rfl | rfl
  · have h0 : (k % 5 == 0) = true := by have := HM.out; simp; omega
    go_enter Try.func84, Try.ntmps84
    go_wp2
    go_ret
    exact ⟨_, _, rfl, .inl ⟨rfl, _, rfl, by simp [go_sem], by omega⟩, by go_grown⟩
  · have h0 : (k % 5 == 0) = false := by have := HM.out; simp; omega
    have h1 : (k % 5 == 1) = true := by have := HM.out; simp; omega
    go_enter Try.func84, Try.ntmps84
    go_wp2
    go_ret
    exact ⟨_, _, rfl, .inr (.inl ⟨rfl, _, rfl, by simp [go_sem], by omega⟩), by go_grown⟩
  · have h0 : (k % 5 == 0) = false := by have := HM.out; simp; omega
    have h1 : (k % 5 == 1) = false := by have := HM.out; simp; omega
    have h2 : (k % 5 == 2) = true := by have := HM.out; simp; omega
    go_enter Try.func84, Try.ntmps84
    go_wp2
    go_ret
    exact ⟨_, _, rfl, .inr (.inr (.inl ⟨rfl, w.heap.size + 1 + 1, w.heap.size + 1, w.heap.size, rfl, by simp [go_sem], by simp [go_sem], by simp [go_sem], by omega, by omega, by omega⟩)), by go_grown⟩
  · have h0 : (k % 5 == 0) = false := by have := HM.out; simp; omega
    have h1 : (k % 5 == 1) = false := by have := HM.out; simp; omega
    have h2 : (k % 5 == 2) = false := by have := HM.out; simp; omega
    have h3 : (k % 5 == 3) = true := by have := HM.out; simp; omega
    go_enter Try.func84, Try.ntmps84
    go_wp2
    go_ret
    exact ⟨_, _, rfl, .inr (.inr (.inr (.inl ⟨rfl, _, rfl⟩))), by go_grown⟩
  · have h0 : (k % 5 == 0) = false := by have := HM.out; simp; omega
    have h1 : (k % 5 == 1) = false := by have := HM.out; simp; omega
    have h2 : (k % 5 == 2) = false := by have := HM.out; simp; omega
    have h3 : (k % 5 == 3) = false := by have := HM.out; simp; omega
    go_enter Try.func84, Try.ntmps84
    go_wp2
    go_ret
    exact ⟨_, _, rfl, .inr (.inr (.inr (.inr ⟨rfl, w.heap.size + 1 + 1 + 1 + 1, w.heap.size + 1 + 1 + 1, w.heap.size + 1, w.heap.size + 1 + 1, rfl, by simp [go_sem], by simp [go_sem], by simp [go_sem], by simp [go_sem], by omega, by omega, by omega⟩))), by go_grown⟩
end Go.Proofs.Ytnjdffnbkjjmeaa
