/- Contracts over those of Pos: posMax. -/
import Derived.Test.YtleldhnilecklaaPos
namespace Go.Proofs.Ytleldhnilecklaa
open Go.RowKit
theorem posMax_any (o lc o2 lc2 : Int) (w : World) :
    Calls Try.prog 35 #[P2 o lc, P2 o2 lc2] w fun e w' => e = .returned (if aft o2 lc2 o then P2 o2 lc2 else P2 o lc) ∧ Below w.heap.size w w' := by
  cases h : aft o2 lc2 o with
  | true =>
    rw [if_pos rfl]
    have HA := Lib.hid h; clear h
    go_enter Try.func35, Try.ntmps35
    go_wp2_with (go_at_call 11; refine (after_any _ _ _ _ _).mono ?_; rintro e w1 ⟨rfl, hb⟩; rw [HA.out]; obtain ⟨hc, hf, hz, hB, hs⟩ := bcell (w := w) (by go_grown) hb; clear hb)
    refine bodyPost_ret (v := P2 o2 lc2) (by simp [results, Try.results35, go_sem, hc]) rfl ⟨rfl, ?_⟩
    go_grown
  | false =>
    rw [if_neg (by simp)]
    have HA := Lib.hid h; clear h
    go_enter Try.func35, Try.ntmps35
    go_wp2_with (go_at_call 11; refine (after_any _ _ _ _ _).mono ?_; rintro e w1 ⟨rfl, hb⟩; rw [HA.out]; obtain ⟨hc, hf, hz, hB, hs⟩ := bcell (w := w) (by go_grown) hb; clear hb)
    refine bodyPost_ret (v := P2 o lc) (by simp [results, Try.results35, go_sem, hc]) rfl ⟨rfl, ?_⟩
    go_grown
end Go.Proofs.Ytleldhnilecklaa
