/- zzBuildDecl: a declare clause of assignments. -/
import Derived.Test.YtaampofbcbophaaAsn
import Derived.Test.YtaampofbcbophaaStep
import Derived.Test.YtaampofbcbophaaArgs
import Derived.Deep.RegionHeld3
import Derived.Deep.DeepCutAuto
import Derived.Deep.Cut
import Derived.IntWalk
namespace Go.Proofs.Ytaampofbcbophaa
open Go.RowKit
theorem mkPos161_any (o lc : Int) (w : World) :
    Calls Try.prog 14 #[.int .u32 o, .int .u32 lc] w fun e w' => e = .returned (P2 o lc) ∧ Below w.heap.size w w' := by
  go_enter Try.func14, Try.ntmps14
  go_wp2
  go_returns
  exact ⟨rfl, by go_grown⟩
/-- An assignment of kind k (modulo 3), its blocks above lo. -/
def AsP (lo : Nat) (k eo el ro rl : Int) (v : Value) (W : World) : Prop := ∃ b bn : Nat, v = .pointer (some ⟨b, 0, none⟩) ∧ lo < b ∧ lo < bn ∧ W.cell? ⟨b, 2, none⟩ = some (.pointer (some ⟨bn, 0, none⟩)) ∧ W.cell? ⟨b, 4, none⟩ = some (.pointer none) ∧ W.cell? ⟨bn, 2, none⟩ = some (.int .u32 eo) ∧ W.cell? ⟨bn, 3, none⟩ = some (.int .u32 el) ∧
  ((k = 0 ∧ W.cell? ⟨b, 1, none⟩ = some (.bool true) ∧ W.cell? ⟨b, 3, none⟩ = some .nilIface ∧ W.cell? ⟨b, 5, none⟩ = some (.pointer none)) ∨ (k = 1 ∧ W.cell? ⟨b, 1, none⟩ = some (.bool false) ∧ W.cell? ⟨b, 3, none⟩ = some .nilIface ∧ W.cell? ⟨b, 5, none⟩ = some (.pointer none)) ∨
    (k = 2 ∧ ∃ ba : Nat, lo < ba ∧ W.cell? ⟨b, 5, none⟩ = some (.pointer (some ⟨ba, 0, none⟩)) ∧ W.cell? ⟨ba, 2, none⟩ = some (.int .u32 ro) ∧ W.cell? ⟨ba, 3, none⟩ = some (.int .u32 rl)))
theorem AsP.move {lo : Nat} {k eo el ro rl : Int} {v : Value} {W W1 : World} (h : AsP lo k eo el ro rl v W) (hc : ∀ p u, lo < p.block → W.cell? p = some u → W1.cell? p = some u) : AsP lo k eo el ro rl v W1 := by
  obtain ⟨b, bn, e, l1, l2, h1, h2, h3, h4, hk⟩ := h
  refine ⟨b, bn, e, l1, l2, hc _ _ l1 h1, hc _ _ l1 h2, hc _ _ l2 h3, hc _ _ l2 h4, ?_⟩
  rcases hk with ⟨e, g1, g2, g3⟩ | ⟨e, g1, g2, g3⟩ | ⟨e, ba, l3, g1, g2, g3⟩
  · exact .inl ⟨e, hc _ _ l1 g1, hc _ _ l1 g2, hc _ _ l1 g3⟩
  · exact .inr (.inl ⟨e, hc _ _ l1 g1, hc _ _ l1 g2, hc _ _ l1 g3⟩)
  · exact .inr (.inr ⟨e, ba, l3, hc _ _ l1 g1, hc _ _ l3 g2, hc _ _ l3 g3⟩)
theorem AsP.keep {lo : Nat} {k eo el ro rl : Int} {v : Value} {W W1 : World} (h : AsP lo k eo el ro rl v W) (hb : Below W.heap.size W W1) : AsP lo k eo el ro rl v W1 := h.move (fun _ _ _ hc => keepc hb hc)
theorem AsP.grown {g : Nat} {k eo el ro rl : Int} {v : Value} {W W1 : World} (h : AsP g k eo el ro rl v W) (hb : W.grownBy W1 (some g)) : AsP g k eo el ro rl v W1 :=
  h.move (fun p _ hl hc => hb.cell hc (by intro e; injection e with e; omega))
def dEO (k eo el ro rl : Int) : Int := if k = 0 then eo else if k = 1 then addO eo el 1 else addO ro rl 1
def dEL (k eo el ro rl : Int) : Int := if k = 0 then el else if k = 1 then addL eo el 1 else addL ro rl 1
theorem AsP.end_ {lo : Nat} {k eo el ro rl : Int} {v : Value} {W : World} (h : AsP lo k eo el ro rl v W) (a0 : 0 ≤ eo ∧ eo < 4294967296) (a1 : 0 ≤ el ∧ el < 4294967296) (a2 : 0 ≤ ro ∧ ro < 4294967296) (a3 : 0 ≤ rl ∧ rl < 4294967296) :
    Calls Try.prog 22 #[v] W fun e w' => e = .returned (P2 (dEO k eo el ro rl) (dEL k eo el ro rl)) ∧ Below W.heap.size W w' := by
  obtain ⟨b, bn, rfl, _, _, h1, h2, h3, h4, hk⟩ := h
  unfold dEO dEL
  rcases hk with ⟨rfl, g1, g2, g3⟩ | ⟨rfl, g1, g2, g3⟩ | ⟨rfl, ba, _, g1, g2, g3⟩
  · simpa using Assign_End_naked b bn eo el W g1 h1 g2 h2 g3 h3 h4
  · simpa using Assign_End_name b bn eo el W g1 h1 g2 h2 g3 h3 h4 a0.1 a0.2 a1.1 a1.2
  · simpa using Assign_End_array b ba ro rl W h2 g1 g2 g3 a2.1 a2.2 a3.1 a3.2
set_option maxRecDepth 100000 in
theorem DeclClause_End_args (b g n cap : Nat) (v : Value) (o lc : Int) (w : World) (hA : w.cell? ⟨b, 1, none⟩ = some (.slice (some ⟨g, 0, none⟩) (n + 1) cap)) (hn : n ≤ 65536) (hv : ∃ a, v = .pointer (some a)) (hp : w.cell? ⟨g, n, none⟩ = some v) (hend : ∀ W, Below w.heap.size w W → Calls Try.prog 22 #[v] W fun e w' => e = .returned (P2 o lc) ∧ Below W.heap.size W w') :
    Calls Try.prog 33 #[.pointer (some ⟨b, 0, none⟩)] w fun e w' => e = .returned (P2 o lc) ∧ Below w.heap.size w w' := by
  obtain ⟨va, rfl⟩ := hv
  have lb := World.block_lt_of_cell? _ _ hA
  have lp := World.block_lt_of_cell? _ _ hp
  have HE := Lib.hid hend
  clear hend
  go_enter Try.func33, Try.ntmps33
  go_wp2
  refine wp_gen (S := fun W => W.cell? ⟨b, 1, none⟩ = some (.slice (some ⟨g, 0, none⟩) (n + 1) cap) ∧ W.cell? ⟨g, n, none⟩ = some (.pointer (some va)) ∧ Bk W w.heap.size 24 #[.int .u32 0, .int .u32 0] ∧ Below w.heap.size w W) ⟨by simp [go_sem, hA, lb], by simp [go_sem, hp, lp], Bk.fresh _ _ _, by go_grown⟩ ?_
  clear hA hp
  rintro W ⟨hA, hp, kR, hB⟩
  have i0 : (0 : Int) ≤ (n : Int) := Int.natCast_nonneg _
  have i1 : (n : Int) < (n : Int) + 1 := by omega
  have iw : IntKind.i64.wrap (n : Int) = (n : Int) := IntWalk.i64_in _ (by omega)
  go_still_tail 12, (by kernel_rfl)
  change wpList _ _ _ _ _ W.drew
  clear iw i0 i1
  go_wp2_with fail
  refine (HE.out W.drew hB.drew).mono ?_
  rintro e w1 ⟨rfl, hb⟩
  have kR1 := kR.drew.keep hb
  have B1 := bmore (w := w) hB.drew hb
  clear hb kR hB hA hp
  have cR := kR1.cells
  have fR := kR1.frz
  go_wp2
  refine bodyPost_ret (v := P2 o lc) (by simp [results, Try.results33, go_sem, cR]) rfl ⟨rfl, ?_⟩
  go_grown
theorem DeclClause_End_none (b bv c : Nat) (a : Option Addr) (o lc : Int) (w : World) (hA : w.cell? ⟨b, 1, none⟩ = some (.slice a 0 c)) (hV : w.cell? ⟨b, 0, none⟩ = some (.pointer (some ⟨bv, 0, none⟩))) (h0 : w.cell? ⟨bv, 2, none⟩ = some (.int .u32 o)) (h1 : w.cell? ⟨bv, 3, none⟩ = some (.int .u32 lc)) :
    Calls Try.prog 33 #[.pointer (some ⟨b, 0, none⟩)] w fun e w' => e = .returned (P2 o lc) ∧ Below w.heap.size w w' := by
  have lb := World.block_lt_of_cell? _ _ hA
  have lv := World.block_lt_of_cell? _ _ h0
  go_enter Try.func33, Try.ntmps33
  go_wp2_with (go_at_call 34; refine (Lit_End_any _ o lc _ (by simp [go_sem, h0, lv]) (by simp [go_sem, h1, lv])).mono ?_; rintro e w1 ⟨rfl, hb⟩; obtain ⟨hc, hf, hz, hB, hs⟩ := bcell (w := w) (by go_grown) hb; clear hb)
  refine bodyPost_ret (v := P2 o lc) (by simp [results, Try.results33, go_sem, hc]) rfl ⟨rfl, ?_⟩
  go_grown
theorem DeclClause_Pos_any (b bv : Nat) (o lc : Int) (w : World) (hV : w.cell? ⟨b, 0, none⟩ = some (.pointer (some ⟨bv, 0, none⟩))) (h0 : w.cell? ⟨bv, 0, none⟩ = some (.int .u32 o)) (h1 : w.cell? ⟨bv, 1, none⟩ = some (.int .u32 lc)) :
    Calls Try.prog 35 #[.pointer (some ⟨b, 0, none⟩)] w fun e w' => e = .returned (P2 o lc) ∧ Below w.heap.size w w' := by
  have lb := World.block_lt_of_cell? _ _ hV
  have lv := World.block_lt_of_cell? _ _ h0
  go_enter Try.func35, Try.ntmps35
  go_wp2_with (go_at_call 58; refine (Lit_Pos_any _ o lc _ (by simp [go_sem, h0, lv]) (by simp [go_sem, h1, lv])).mono ?_; rintro e w1 ⟨rfl, hb⟩; obtain ⟨hc, hf, hz, hB, hs⟩ := bcell (w := w) (by go_grown) hb; clear hb)
  refine bodyPost_ret (v := P2 o lc) (by simp [results, Try.results35, go_sem, hc]) rfl ⟨rfl, ?_⟩
  go_grown
end Go.Proofs.Ytaampofbcbophaa
