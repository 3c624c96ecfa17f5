/- posErr on a parser that has no error yet, and on one that has. -/
import Derived.Test.YtimaobpcefgdkaaFmtHeldE
namespace Go.Proofs.YtimaobpcefgdkaaFmt
open Go.RowKit
theorem grown_tr {W W1 W2 : World} {row : Option Nat} (h1 : W.grownBy W1 row) (h2 : W1.grownBy W2 row) : W.grownBy W2 row :=
  ⟨h2.os.trans h1.os, h2.tape.trans h1.tape, h2.output.trans h1.output, Nat.le_trans h1.size h2.size, fun i hi hr => (h2.block i (Nat.lt_of_lt_of_le hi h1.size) hr).trans (h1.block i hi hr)⟩
theorem only_drew {a w : World} {row : Option Nat} (h : a.grownBy w row) : a.grownBy w.drew row := ⟨h.os, h.tape, h.output, h.size, h.block⟩
/-- The error that posErr lays. -/
abbrev parseErr (nm : ByteArray) (o l : Int) (s : ByteArray) : Value := .iface 68 (.agg #[.string nm, .int .u32 o, .int .u32 l, .string s, .bool false])
set_option maxHeartbeats 4000000 in
set_option maxRecDepth 100000 in
theorem posErr_first {w : World} {b fp : Nat} {nm : ByteArray} {fb : Bool} {lg : Int} (h : PP w b fp nm .nilIface 0 fb lg) (o l : Int) {f : ByteArray} (hf : PlainF f) :
    Calls Tryf.prog 19 #[.pointer (some ⟨b, 0, none⟩), P2 o l, .string f, .slice none 0 0] w fun e w' => e = .returned (.tuple #[]) ∧ (∃ s : ByteArray, PP w' b fp nm (parseErr nm o l s) 1 fb lg) ∧ w.grownBy w' (some b) := by
  have lb := h.lt
  have hne : w.heap.size ≠ b := by omega
  have H := Lib.hid h
  have HFM := Lib.hid hf
  clear h hf
  go_enter Tryf.func19, Tryf.ntmps19
  go_upto_region 1 with (fail)
  refine wp_gen (S := fun W => PP W b fp nm .nilIface 0 fb lg ∧ Bk W w.heap.size 28 #[.int .u32 o, .int .u32 l] ∧ w.grownBy W (some b)) ⟨H.out.alloc _, Bk.fresh _ _ _, World.grownBy_alloc _ _ _⟩ ?_
  clear H
  rintro W ⟨hp, hk, hg⟩
  have c5 := hp.c5
  have cf := hp.cf
  have c10 := hp.c10
  have p0 : W.cell? ⟨w.heap.size, 0, none⟩ = some (.int .u32 o) := by rw [hk.cells]; rfl
  have p1 : W.cell? ⟨w.heap.size, 1, none⟩ = some (.int .u32 l) := by rw [hk.cells]; rfl
  have lb2 := hp.lt
  have lk := hk.lt
  have H := Lib.hid hp
  have HK := Lib.hid hk
  have HG := Lib.hid hg
  clear hp hk hg
  refine wp_region_E (S := fun W' => W'.cell? ⟨b, 5, none⟩ = some (.pointer (some ⟨fp, 0, none⟩)) ∧ W'.cell? ⟨fp, 0, none⟩ = some (.string nm) ∧ W'.cell? ⟨w.heap.size, 0, none⟩ = some (.int .u32 o) ∧ W'.cell? ⟨w.heap.size, 1, none⟩ = some (.int .u32 l) ∧ W'.cell? ⟨b, 10, none⟩ = some (.int .u32 0)) 23 (by kernel_rfl) (by kernel_rfl) ⟨c5, cf, p0, p1, c10⟩ ?_
  intro inv hS
  -- @@begin
  refine wpAnyE_take 0 (.pointer (some ⟨b, 0, none⟩)) rfl (by kernel_rfl) (by kernel_rfl) (by decide) (fun _ _ _ h => h) (Or.inl ⟨by rfl, fun w hw => by obtain ⟨h1, h2, h3, h4, h5⟩ := hw; go_simp⟩) hS inv ?_
  clear inv; intro inv
  simp only [Act.put, List.setIfInBounds_toArray, List.set_cons_zero, List.set_cons_succ]
  refine wpAnyE_take 1 (.pointer (some ⟨b, 0, none⟩)) rfl (by kernel_rfl) (by kernel_rfl) (by decide) (fun _ _ _ h => h) (Or.inl ⟨by rfl, fun w hw => by obtain ⟨h1, h2, h3, h4, h5⟩ := hw; go_simp⟩) hS inv ?_
  clear inv; intro inv
  simp only [Act.put, List.setIfInBounds_toArray, List.set_cons_zero, List.set_cons_succ]
  refine wpAnyE_take 2 (.pointer (some ⟨b, 0, none⟩)) rfl (by kernel_rfl) (by kernel_rfl) (by decide) (fun _ _ _ h => h) (Or.inl ⟨by rfl, fun w hw => by obtain ⟨h1, h2, h3, h4, h5⟩ := hw; go_simp⟩) hS inv ?_
  clear inv; intro inv
  simp only [Act.put, List.setIfInBounds_toArray, List.set_cons_zero, List.set_cons_succ]
  refine wpAnyE_take 3 (.pointer (some ⟨b, 5, none⟩)) rfl (by kernel_rfl) (by kernel_rfl) (by decide) (fun _ _ _ h => h) (Or.inl ⟨by rfl, fun w hw => by obtain ⟨h1, h2, h3, h4, h5⟩ := hw; go_simp⟩) hS inv ?_
  clear inv; intro inv
  simp only [Act.put, List.setIfInBounds_toArray, List.set_cons_zero, List.set_cons_succ]
  refine wpAnyE_take 4 (.pointer (some ⟨fp, 0, none⟩)) rfl (by kernel_rfl) (by kernel_rfl) (by decide) (fun _ _ _ h => h) (Or.inl ⟨by rfl, fun w hw => by obtain ⟨h1, h2, h3, h4, h5⟩ := hw; go_simp⟩) hS inv ?_
  clear inv; intro inv
  simp only [Act.put, List.setIfInBounds_toArray, List.set_cons_zero, List.set_cons_succ]
  refine wpAnyE_take 5 (.pointer (some ⟨fp, 0, none⟩)) rfl (by kernel_rfl) (by kernel_rfl) (by decide) (fun _ _ _ h => h) (Or.inl ⟨by rfl, fun w hw => by obtain ⟨h1, h2, h3, h4, h5⟩ := hw; go_simp⟩) hS inv ?_
  clear inv; intro inv
  simp only [Act.put, List.setIfInBounds_toArray, List.set_cons_zero, List.set_cons_succ]
  refine wpAnyE_take 6 (.pointer (some ⟨fp, 0, none⟩)) rfl (by kernel_rfl) (by kernel_rfl) (by decide) (fun _ _ _ h => h) (Or.inl ⟨by rfl, fun w hw => by obtain ⟨h1, h2, h3, h4, h5⟩ := hw; go_simp⟩) hS inv ?_
  clear inv; intro inv
  simp only [Act.put, List.setIfInBounds_toArray, List.set_cons_zero, List.set_cons_succ]
  refine wpAnyE_take 7 (.string nm) rfl (by kernel_rfl) (by kernel_rfl) (by decide) (fun _ _ _ h => h) (Or.inl ⟨by rfl, fun w hw => by obtain ⟨h1, h2, h3, h4, h5⟩ := hw; go_simp⟩) hS inv ?_
  clear inv; intro inv
  simp only [Act.put, List.setIfInBounds_toArray, List.set_cons_zero, List.set_cons_succ]
  refine wpAnyE_take 8 (P2 o l) rfl (by kernel_rfl) (by kernel_rfl) (by decide) (fun _ _ _ h => h) (Or.inl ⟨by rfl, fun w hw => by obtain ⟨h1, h2, h3, h4, h5⟩ := hw; go_simp⟩) hS inv ?_
  clear inv; intro inv
  simp only [Act.put, List.setIfInBounds_toArray, List.set_cons_zero, List.set_cons_succ]
  refine wpAnyE_take 9 (.string f) rfl (by kernel_rfl) (by kernel_rfl) (by decide) (fun _ _ _ h => h) (Or.inl ⟨by rfl, fun w hw => by obtain ⟨h1, h2, h3, h4, h5⟩ := hw; go_simp⟩) hS inv ?_
  clear inv; intro inv
  simp only [Act.put, List.setIfInBounds_toArray, List.set_cons_zero, List.set_cons_succ]
  refine wpAnyE_take 10 (.slice none 0 0) rfl (by kernel_rfl) (by kernel_rfl) (by decide) (fun _ _ _ h => h) (Or.inl ⟨by rfl, fun w hw => by obtain ⟨h1, h2, h3, h4, h5⟩ := hw; go_simp⟩) hS inv ?_
  clear inv; intro inv
  simp only [Act.put, List.setIfInBounds_toArray, List.set_cons_zero, List.set_cons_succ]
  refine wpAnyE_take 12 (.pointer (some ⟨b, 0, none⟩)) rfl (by kernel_rfl) (by kernel_rfl) (by decide) (fun _ _ _ h => h) (Or.inl ⟨by rfl, fun w hw => by obtain ⟨h1, h2, h3, h4, h5⟩ := hw; go_simp⟩) hS inv ?_
  clear inv; intro inv
  simp only [Act.put, List.setIfInBounds_toArray, List.set_cons_zero, List.set_cons_succ]
  refine wpAnyE_take 13 (.pointer (some ⟨b, 0, none⟩)) rfl (by kernel_rfl) (by kernel_rfl) (by decide) (fun _ _ _ h => h) (Or.inl ⟨by rfl, fun w hw => by obtain ⟨h1, h2, h3, h4, h5⟩ := hw; go_simp⟩) hS inv ?_
  clear inv; intro inv
  simp only [Act.put, List.setIfInBounds_toArray, List.set_cons_zero, List.set_cons_succ]
  refine wpAnyE_take 14 (.pointer (some ⟨b, 10, none⟩)) rfl (by kernel_rfl) (by kernel_rfl) (by decide) (fun _ _ _ h => h) (Or.inl ⟨by rfl, fun w hw => by obtain ⟨h1, h2, h3, h4, h5⟩ := hw; go_simp⟩) hS inv ?_
  clear inv; intro inv
  simp only [Act.put, List.setIfInBounds_toArray, List.set_cons_zero, List.set_cons_succ]
  refine wpAnyE_take 15 (.int .u32 0) rfl (by kernel_rfl) (by kernel_rfl) (by decide) (fun _ _ _ h => h) (Or.inl ⟨by rfl, fun w hw => by obtain ⟨h1, h2, h3, h4, h5⟩ := hw; go_simp⟩) hS inv ?_
  clear inv; intro inv
  simp only [Act.put, List.setIfInBounds_toArray, List.set_cons_zero, List.set_cons_succ]
  refine wpAnyE_take 16 (.bool false) rfl (by kernel_rfl) (by kernel_rfl) (by decide) (fun _ _ _ h => h) (Or.inl ⟨by rfl, fun w hw => by obtain ⟨h1, h2, h3, h4, h5⟩ := hw; go_simp⟩) hS inv ?_
  clear inv; intro inv
  simp only [Act.put, List.setIfInBounds_toArray, List.set_cons_zero, List.set_cons_succ]
  refine wpAnyE_one 11 rfl (by kernel_rfl) (by decide) inv ?_
  intro K' hK
  refine step_sprintf rfl _ _ _ rfl HFM.out rfl rfl ?_
  intro s
  refine hK _ _ ⟨c5, cf, p0, p1, c10⟩ ?_
  clear hK K' hS inv
  intro hS inv
  simp only [Act.put, List.setIfInBounds_toArray, List.set_cons_zero, List.set_cons_succ]
  refine wpAnyE_take 17 (.bool false) rfl (by kernel_rfl) (by kernel_rfl) (by decide) (fun _ _ _ h => h) (Or.inl ⟨by rfl, fun w hw => by obtain ⟨h1, h2, h3, h4, h5⟩ := hw; go_simp⟩) hS inv ?_
  clear inv; intro inv
  simp only [Act.put, List.setIfInBounds_toArray, List.set_cons_zero, List.set_cons_succ]
  refine wpAnyE_take 18 undef rfl (by kernel_rfl) (by kernel_rfl) (by decide) (fun _ _ _ h => h) (Or.inr ⟨by rfl, rfl⟩) hS inv ?_
  clear inv; intro inv
  refine wpAnyE_take 19 undef rfl (by kernel_rfl) (by kernel_rfl) (by decide) (fun _ _ _ h => h) (Or.inr ⟨by rfl, rfl⟩) hS inv ?_
  clear inv; intro inv
  refine wpAnyE_take 20 (.bool false) rfl (by kernel_rfl) (by kernel_rfl) (by decide) (fun _ _ _ h => h) (Or.inl ⟨by rfl, fun w hw => by obtain ⟨h1, h2, h3, h4, h5⟩ := hw; go_simp⟩) hS inv ?_
  clear inv; intro inv
  simp only [Act.put, List.setIfInBounds_toArray, List.set_cons_zero, List.set_cons_succ]
  refine wpAnyE_take 21 (.agg #[.string nm, .int .u32 o, .int .u32 l, .string s, .bool false]) rfl (by kernel_rfl) (by kernel_rfl) (by decide) (fun _ _ _ h => h) (Or.inl ⟨by rfl, fun w hw => by obtain ⟨h1, h2, h3, h4, h5⟩ := hw; go_simp⟩) hS inv ?_
  clear inv; intro inv
  simp only [Act.put, List.setIfInBounds_toArray, List.set_cons_zero, List.set_cons_succ]
  refine wpAnyE_take 22 (parseErr nm o l s) rfl (by kernel_rfl) (by kernel_rfl) (by decide) (fun _ _ _ h => h) (Or.inl ⟨by rfl, fun w hw => by obtain ⟨h1, h2, h3, h4, h5⟩ := hw; go_simp⟩) hS inv ?_
  clear inv; intro inv
  simp only [Act.put, List.setIfInBounds_toArray, List.set_cons_zero, List.set_cons_succ]
  refine wpAnyE_last rfl (by kernel_rfl) (by kernel_rfl) ?_
  intro K' hK
  go_simp
  go_at_call 21
  refine (errPass_nil (H.out.drew.drew) _ _).mono ?_
  rintro e w2 ⟨rfl, hP2, hg2⟩
  dsimp only
  refine hK _ _ ?_
  clear hK K' hS inv
  go_end0
  exact ⟨rfl, ⟨s, hP2⟩, grown_tr (only_drew (only_drew HG.out)) hg2⟩
  -- @@end
set_option maxHeartbeats 4000000 in
set_option maxRecDepth 100000 in
theorem posErr_more {w : World} {b fp : Nat} {nm : ByteArray} {t : TypeId} {x : Value} {fb : Bool} {lg : Int} (h : PP w b fp nm (.iface t x) 1 fb lg) (o l : Int) {f : ByteArray} (hf : PlainF f) :
    Calls Tryf.prog 19 #[.pointer (some ⟨b, 0, none⟩), P2 o l, .string f, .slice none 0 0] w fun e w' => e = .returned (.tuple #[]) ∧ Below w.heap.size w w' := by
  have lb := h.lt
  have hne : w.heap.size ≠ b := by omega
  have H := Lib.hid h
  have HFM := Lib.hid hf
  clear h hf
  go_enter Tryf.func19, Tryf.ntmps19
  go_upto_region 1 with (fail)
  refine wp_gen (S := fun W => PP W b fp nm (.iface t x) 1 fb lg ∧ Bk W w.heap.size 28 #[.int .u32 o, .int .u32 l] ∧ Below w.heap.size w W) ⟨H.out.alloc _, Bk.fresh _ _ _, (Below.refl _ _).alloc (Nat.le_refl _) _⟩ ?_
  clear H
  rintro W ⟨hp, hk, hg⟩
  have c5 := hp.c5
  have cf := hp.cf
  have c10 := hp.c10
  have p0 : W.cell? ⟨w.heap.size, 0, none⟩ = some (.int .u32 o) := by rw [hk.cells]; rfl
  have p1 : W.cell? ⟨w.heap.size, 1, none⟩ = some (.int .u32 l) := by rw [hk.cells]; rfl
  have lb2 := hp.lt
  have lk := hk.lt
  have H := Lib.hid hp
  have HK := Lib.hid hk
  have HG := Lib.hid hg
  clear hp hk hg
  first
    | (go_region_held3 (fun W' => W'.cell? ⟨b, 5, none⟩ = some (.pointer (some ⟨fp, 0, none⟩)) ∧ W'.cell? ⟨fp, 0, none⟩ = some (.string nm) ∧ W'.cell? ⟨w.heap.size, 0, none⟩ = some (.int .u32 o) ∧ W'.cell? ⟨w.heap.size, 1, none⟩ = some (.int .u32 l) ∧ W'.cell? ⟨b, 10, none⟩ = some (.int .u32 1))
        (exact ⟨c5, cf, p0, p1, c10⟩)
        (first
          | (refine step_sprintf rfl _ _ _ rfl HFM.out rfl rfl ?_; intro s)
          | (go_at_call 25; refine (incomplete_no (by first | exact H.out.drew.drew | exact H.out.drew)).mono ?_; rintro e w2 ⟨rfl, rfl⟩)
          | (go_at_call 21; refine (errPass_some (by first | exact H.out.drew.drew | exact H.out.drew) _ _).mono ?_; rintro e w2 ⟨rfl, rfl⟩)))
    | fail
  all_goals
    go_end0
    exact ⟨rfl, HG.out.drew.drew⟩
end Go.Proofs.YtimaobpcefgdkaaFmt
