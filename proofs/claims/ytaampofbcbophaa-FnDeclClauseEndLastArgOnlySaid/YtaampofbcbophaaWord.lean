/- Contracts of Word.End and Word.Pos at literal parts. -/
import Derived.Test.YtaampofbcbophaaNodes
import Derived.Test.YtaampofbcbophaaBlk
import Derived.StillTailTactics
import Derived.IntWalk
namespace Go.Proofs.Ytaampofbcbophaa
open Go.RowKit
set_option maxRecDepth 100000 in
theorem Word_End_lit (b ps n cap bl : Nat) (o lc : Int) (w : World) (hW : w.cell? ⟨b, 0, none⟩ = some (.slice (some ⟨ps, 0, none⟩) (n + 1) cap)) (hn : n ≤ 4611686018427387904)
    (hp : w.cell? ⟨ps, n, none⟩ = some (.iface 37 (.pointer (some ⟨bl, 0, none⟩)))) (h0 : w.cell? ⟨bl, 2, none⟩ = some (.int .u32 o)) (h1 : w.cell? ⟨bl, 3, none⟩ = some (.int .u32 lc)) :
    Calls Try.prog 60 #[.pointer (some ⟨b, 0, none⟩)] w fun e w' => e = .returned (P2 o lc) ∧ Below w.heap.size w w' := by
  have lb := World.block_lt_of_cell? _ _ hW
  have lp := World.block_lt_of_cell? _ _ hp
  have ll := World.block_lt_of_cell? _ _ h0
  go_enter Try.func60, Try.ntmps60
  go_wp2
  refine wp_gen (S := fun W => W.cell? ⟨b, 0, none⟩ = some (.slice (some ⟨ps, 0, none⟩) (n + 1) cap) ∧ W.cell? ⟨ps, n, none⟩ = some (.iface 37 (.pointer (some ⟨bl, 0, none⟩))) ∧ W.cell? ⟨bl, 2, none⟩ = some (.int .u32 o) ∧ W.cell? ⟨bl, 3, none⟩ = some (.int .u32 lc) ∧ Bk W w.heap.size 24 #[.int .u32 0, .int .u32 0] ∧ Below w.heap.size w W) ⟨by simp [go_sem, hW, lb], by simp [go_sem, hp, lp], by simp [go_sem, h0, ll], by simp [go_sem, h1, ll], Bk.fresh _ _ _, by go_grown⟩ ?_
  clear hW hp h0 h1
  rintro W ⟨hW, hp, h0, h1, kR, hB⟩
  have i0 : (0 : Int) ≤ (n : Int) := Int.natCast_nonneg _
  have i1 : (n : Int) < (n : Int) + 1 := by omega
  have iw : IntKind.i64.wrap (n : Int) = (n : Int) := IntWalk.i64_in _ (by omega)
  go_still_tail 12, (by kernel_rfl)
  change wpList _ _ _ _ _ W.drew
  clear iw i0 i1
  go_wp2_with fail
  refine (Lit_End_any _ o lc W.drew h0 h1).mono ?_
  rintro e w1 ⟨rfl, hb⟩
  have kR1 := kR.drew.keep hb
  have B1 := bmore (w := w) hB.drew hb
  clear hb kR hB hW hp h0 h1
  have cR := kR1.cells
  have fR := kR1.frz
  go_wp2
  refine bodyPost_ret (v := P2 o lc) (by simp [results, Try.results60, go_sem, cR]) rfl ⟨rfl, ?_⟩
  go_grown
set_option maxRecDepth 100000 in
theorem Word_Pos_lit (b ps n cap bl : Nat) (o lc : Int) (w : World) (hW : w.cell? ⟨b, 0, none⟩ = some (.slice (some ⟨ps, 0, none⟩) (n + 1) cap)) (hn : n ≤ 4611686018427387904)
    (hp : w.cell? ⟨ps, 0, none⟩ = some (.iface 37 (.pointer (some ⟨bl, 0, none⟩)))) (h0 : w.cell? ⟨bl, 0, none⟩ = some (.int .u32 o)) (h1 : w.cell? ⟨bl, 1, none⟩ = some (.int .u32 lc)) :
    Calls Try.prog 59 #[.pointer (some ⟨b, 0, none⟩)] w fun e w' => e = .returned (P2 o lc) ∧ Below w.heap.size w w' := by
  have lb := World.block_lt_of_cell? _ _ hW
  have lp := World.block_lt_of_cell? _ _ hp
  have ll := World.block_lt_of_cell? _ _ h0
  have i1 : (0 : Int) < (n : Int) + 1 := by omega
  go_enter Try.func59, Try.ntmps59
  go_wp2_with fail
  refine (Lit_Pos_any _ o lc _ (by simp [go_sem, h0, ll]) (by simp [go_sem, h1, ll])).mono ?_
  rintro e w1 ⟨rfl, hb⟩
  have kR1 := (Bk.fresh _ _ _).keep hb
  have B1 := bmore (w := w) (by go_grown) hb
  clear hb
  have cR := kR1.cells
  have fR := kR1.frz
  go_wp2
  refine bodyPost_ret (v := P2 o lc) (by simp [results, Try.results59, go_sem, cR]) rfl ⟨rfl, ?_⟩
  go_grown
theorem Redirect_End_word (b bw : Nat) (o lc : Int) (w : World) (hW : w.cell? ⟨b, 4, none⟩ = some (.pointer (some ⟨bw, 0, none⟩))) (hH : w.cell? ⟨b, 5, none⟩ = some (.pointer none))
    (hend : ∀ W, Below w.heap.size w W → Calls Try.prog 60 #[.pointer (some ⟨bw, 0, none⟩)] W fun e w' => e = .returned (P2 o lc) ∧ Below W.heap.size W w') :
    Calls Try.prog 92 #[.pointer (some ⟨b, 0, none⟩)] w fun e w' => e = .returned (P2 o lc) ∧ Below w.heap.size w w' := by
  have hlt : b < w.heap.size := World.block_lt_of_cell? _ _ hW
  have HE := Lib.hid hend
  clear hend
  go_enter Try.func92, Try.ntmps92
  go_wp2_with (go_at_call 60; refine (HE.out _ (by go_grown)).mono ?_; rintro e w1 ⟨rfl, hb⟩; obtain ⟨hc, hf, hz, hB, hs⟩ := bcell (w := w) (by go_grown) hb; clear hb)
  refine bodyPost_ret (v := P2 o lc) (by simp [results, Try.results92, go_sem, hc]) rfl ⟨rfl, ?_⟩
  go_grown
end Go.Proofs.Ytaampofbcbophaa
