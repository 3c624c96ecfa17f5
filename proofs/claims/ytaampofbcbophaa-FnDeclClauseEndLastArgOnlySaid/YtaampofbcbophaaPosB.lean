/- Contracts over those of Pos: posMax. -/
import Derived.Test.YtaampofbcbophaaPos
namespace Go.Proofs.Ytaampofbcbophaa
open Go.RowKit
/-- Two positions held in two blocks, and nothing old turned: kept over a call that only makes memory. -/
theorem keep22 {w Wp w1 : World} {bp be : Nat} {v0 v1 v2 v3 : Value}
    (hs : Wp.cell? ⟨bp, 0, none⟩ = some v0 ∧ Wp.cell? ⟨bp, 1, none⟩ = some v1 ∧ Wp.cell? ⟨be, 0, none⟩ = some v2 ∧ Wp.cell? ⟨be, 1, none⟩ = some v3 ∧ Below w.heap.size w Wp) (hb : Below Wp.heap.size Wp w1) :
    w1.cell? ⟨bp, 0, none⟩ = some v0 ∧ w1.cell? ⟨bp, 1, none⟩ = some v1 ∧ w1.cell? ⟨be, 0, none⟩ = some v2 ∧ w1.cell? ⟨be, 1, none⟩ = some v3 ∧ Below w.heap.size w w1 :=
  ⟨keepc hb hs.1, keepc hb hs.2.1, keepc hb hs.2.2.1, keepc hb hs.2.2.2.1, bmore hs.2.2.2.2 hb⟩
theorem keep33 {w Wp w1 : World} {bp be br : Nat} {v0 v1 v2 v3 v4 v5 : Value}
    (hs : Wp.cell? ⟨bp, 0, none⟩ = some v0 ∧ Wp.cell? ⟨bp, 1, none⟩ = some v1 ∧ Wp.cell? ⟨be, 0, none⟩ = some v2 ∧ Wp.cell? ⟨be, 1, none⟩ = some v3 ∧ Wp.cell? ⟨br, 0, none⟩ = some v4 ∧ Wp.cell? ⟨br, 1, none⟩ = some v5 ∧ Below w.heap.size w Wp) (hb : Below Wp.heap.size Wp w1) :
    w1.cell? ⟨bp, 0, none⟩ = some v0 ∧ w1.cell? ⟨bp, 1, none⟩ = some v1 ∧ w1.cell? ⟨be, 0, none⟩ = some v2 ∧ w1.cell? ⟨be, 1, none⟩ = some v3 ∧ w1.cell? ⟨br, 0, none⟩ = some v4 ∧ w1.cell? ⟨br, 1, none⟩ = some v5 ∧ Below w.heap.size w w1 :=
  ⟨keepc hb hs.1, keepc hb hs.2.1, keepc hb hs.2.2.1, keepc hb hs.2.2.2.1, keepc hb hs.2.2.2.2.1, keepc hb hs.2.2.2.2.2.1, bmore hs.2.2.2.2.2.2 hb⟩
theorem posMax_any (o lc o2 lc2 : Int) (w : World) :
    Calls Try.prog 91 #[P2 o lc, P2 o2 lc2] w fun e w' => e = .returned (if aft o2 lc2 o then P2 o2 lc2 else P2 o lc) ∧ Below w.heap.size w w' := by
  cases h : aft o2 lc2 o with
  | true =>
    rw [if_pos rfl]
    have HA := Lib.hid h; clear h
    go_enter Try.func91, Try.ntmps91
    go_wp2_with (go_at_call 29; refine (after_any _ _ _ _ _).mono ?_; rintro e w1 ⟨rfl, hb⟩; rw [HA.out]; obtain ⟨hc, hf, hz, hB, hs⟩ := bcell (w := w) (by go_grown) hb; clear hb)
    refine bodyPost_ret (v := P2 o2 lc2) (by simp [results, Try.results91, go_sem, hc]) rfl ⟨rfl, ?_⟩
    go_grown
  | false =>
    rw [if_neg (by simp)]
    have HA := Lib.hid h; clear h
    go_enter Try.func91, Try.ntmps91
    go_wp2_with (go_at_call 29; refine (after_any _ _ _ _ _).mono ?_; rintro e w1 ⟨rfl, hb⟩; rw [HA.out]; obtain ⟨hc, hf, hz, hB, hs⟩ := bcell (w := w) (by go_grown) hb; clear hb)
    refine bodyPost_ret (v := P2 o lc) (by simp [results, Try.results91, go_sem, hc]) rfl ⟨rfl, ?_⟩
    go_grown
end Go.Proofs.Ytaampofbcbophaa
