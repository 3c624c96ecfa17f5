/- Contracts towards FnTestDeclEndCallAgrees: CallExpr.End at its last word, wordLastEnd, TestDecl.End, and the law's own small functions. -/
import Derived.Test.YtaampofbcbophaaWord
import Derived.Test.YtaampofbcbophaaSrc
import Derived.Test.YtaampofbcbophaaStmt
namespace Go.Proofs.Ytaampofbcbophaa
open Go.RowKit
def PtrTo (Pw : Nat → World → Prop) (w : World) (e : Ending) (w' : World) : Prop := ∃ b : Nat, e = .returned (.pointer (some ⟨b, 0, none⟩)) ∧ Pw b w' ∧ Below w.heap.size w w'
/-- A word of one literal, with all four numbers of its span. -/
def LitW (W : World) (wd : Nat) (xs xl xe el : Int) : Prop :=
  ∃ (pt lt : Nat) (s : ByteArray), Bk W wd 46 #[.slice (some ⟨pt, 0, none⟩) 1 1] ∧ Bk W pt 128 #[.iface 37 (.pointer (some ⟨lt, 0, none⟩))] ∧ Bk W lt 97 #[.int .u32 xs, .int .u32 xl, .int .u32 xe, .int .u32 el, .string s]
theorem LitW.keep {W W1 : World} {wd : Nat} {xs xl xe el : Int} (h : LitW W wd xs xl xe el) (hb : Below W.heap.size W W1) : LitW W1 wd xs xl xe el := by
  obtain ⟨pt, lt, s, h1, h2, h3⟩ := h
  exact ⟨pt, lt, s, h1.keep hb, h2.keep hb, h3.keep hb⟩
theorem LitW.grown {W W1 : World} {wd : Nat} {xs xl xe el : Int} {base g k n : Nat} {ys : List Value} {t : TypeId} (h : LitW W wd xs xl xe el) (h1 : 46 ≠ t) (h2 : 128 ≠ t) (h3 : 97 ≠ t) (ho : W.ownsRow base t 1 (.slice (some ⟨g, 0, none⟩) k n) k ys) (hb : W.grownBy W1 (some g)) : LitW W1 wd xs xl xe el := by
  obtain ⟨pt, lt, s, k1, k2, k3⟩ := h
  exact ⟨pt, lt, s, k1.grown hb (k1.ne_row ho h1), k2.grown hb (k2.ne_row ho h2), k3.grown hb (k3.ne_row ho h3)⟩
theorem LitW.end_ {W : World} {wd : Nat} {xs xl xe el : Int} (h : LitW W wd xs xl xe el) :
    Calls Try.prog 60 #[.pointer (some ⟨wd, 0, none⟩)] W fun e w' => e = .returned (P2 xe el) ∧ Below W.heap.size W w' := by
  obtain ⟨pt, lt, s, h1, h2, h3⟩ := h
  exact Word_End_lit wd pt 0 1 lt xe el W (by rw [h1.cells]; rfl) (by omega) (by rw [h2.cells]; rfl) (by rw [h3.cells]; rfl) (by rw [h3.cells]; rfl)
set_option maxRecDepth 100000 in
theorem CallExpr_End_args (b g m cap rl : Nat) (o lc : Int) (w : World) (hA : w.cell? ⟨b, 1, none⟩ = some (.slice (some ⟨g, 0, none⟩) (m + 1) cap)) (hm : m ≤ 4611686018427387904) (hp : w.cell? ⟨g, m, none⟩ = some (.pointer (some ⟨rl, 0, none⟩)))
    (hend : ∀ W, Below w.heap.size w W → Calls Try.prog 60 #[.pointer (some ⟨rl, 0, none⟩)] W fun e w' => e = .returned (P2 o lc) ∧ Below W.heap.size W w') :
    Calls Try.prog 134 #[.pointer (some ⟨b, 0, none⟩)] w fun e w' => e = .returned (P2 o lc) ∧ Below w.heap.size w w' := by
  have lb := World.block_lt_of_cell? _ _ hA
  have lp := World.block_lt_of_cell? _ _ hp
  have HE := Lib.hid hend
  clear hend
  go_enter Try.func134, Try.ntmps134
  go_wp2
  refine wp_gen (S := fun W => W.cell? ⟨b, 1, none⟩ = some (.slice (some ⟨g, 0, none⟩) (m + 1) cap) ∧ W.cell? ⟨g, m, none⟩ = some (.pointer (some ⟨rl, 0, none⟩)) ∧ Bk W w.heap.size 24 #[.int .u32 0, .int .u32 0] ∧ Below w.heap.size w W) ⟨by simp [go_sem, hA, lb], by simp [go_sem, hp, lp], Bk.fresh _ _ _, by go_grown⟩ ?_
  clear hA hp
  rintro W ⟨hA, hp, kR, hB⟩
  have i0 : (0 : Int) ≤ (m : Int) := Int.natCast_nonneg _
  have i1 : (m : Int) < (m : Int) + 1 := by omega
  have iw : IntKind.i64.wrap (m : Int) = (m : Int) := IntWalk.i64_in _ (by omega)
  go_still_tail 12, (by kernel_rfl)
  change wpList _ _ _ _ _ W.drew
  clear iw i0 i1
  go_wp2_with fail
  refine (HE.out W.drew hB.drew).mono ?_
  rintro e w1 ⟨rfl, hb⟩
  have kR1 := kR.drew.keep hb
  have B1 := bmore (w := w) hB.drew hb
  clear hb kR hB hA hp
  have cR := kR1.cells
  have fR := kR1.frz
  go_wp2
  refine bodyPost_ret (v := P2 o lc) (by simp [results, Try.results134, go_sem, cR]) rfl ⟨rfl, ?_⟩
  go_grown
theorem wordLastEnd_any (g m cap rl : Nat) (o lc : Int) (w : World) (hm : m ≤ 4611686018427387904) (hp : w.cell? ⟨g, m, none⟩ = some (.pointer (some ⟨rl, 0, none⟩)))
    (hend : ∀ W, Below w.heap.size w W → Calls Try.prog 60 #[.pointer (some ⟨rl, 0, none⟩)] W fun e w' => e = .returned (P2 o lc) ∧ Below W.heap.size W w') :
    Calls Try.prog 86 #[.slice (some ⟨g, 0, none⟩) (m + 1) cap] w fun e w' => e = .returned (P2 o lc) ∧ Below w.heap.size w w' := by
  have lp := World.block_lt_of_cell? _ _ hp
  have HE := Lib.hid hend
  clear hend
  have i0 : (0 : Int) ≤ (m : Int) := Int.natCast_nonneg _
  have i1 : (m : Int) < (m : Int) + 1 := by omega
  have iw : IntKind.i64.wrap (m : Int) = (m : Int) := IntWalk.i64_in _ (by omega)
  go_enter Try.func86, Try.ntmps86
  go_wp2_with (go_at_call 60; refine (HE.out _ (by go_grown)).mono ?_; rintro e w1 ⟨rfl, hb⟩; obtain ⟨hc, hf, hz, hB, hs⟩ := bcell (w := w) (by go_grown) hb; clear hb)
  refine bodyPost_ret (v := P2 o lc) (by simp [results, Try.results86, go_sem, hc]) rfl ⟨rfl, ?_⟩
  go_grown
theorem TestDecl_End_any (b bY : Nat) (co cl : Int) (w : World) (hB : w.cell? ⟨b, 3, none⟩ = some (.pointer (some ⟨bY, 0, none⟩)))
    (hend : ∀ W, Below w.heap.size w W → Calls Try.prog 70 #[.pointer (some ⟨bY, 0, none⟩)] W fun e w' => e = .returned (P2 co cl) ∧ Below W.heap.size W w') :
    Calls Try.prog 50 #[.pointer (some ⟨b, 0, none⟩)] w fun e w' => e = .returned (P2 co cl) ∧ Below w.heap.size w w' := by
  have hlt : b < w.heap.size := World.block_lt_of_cell? _ _ hB
  have HE := Lib.hid hend
  clear hend
  go_enter Try.func50, Try.ntmps50
  go_wp2_with (go_at_call 70; refine (HE.out _ (by go_grown)).mono ?_; rintro e w1 ⟨rfl, hb⟩; obtain ⟨hc, hf, hz, hB, hs⟩ := bcell (w := w) (by go_grown) hb; clear hb)
  refine bodyPost_ret (v := P2 co cl) (by simp [results, Try.results50, go_sem, hc]) rfl ⟨rfl, ?_⟩
  go_grown
theorem mkPos146_any (o lc : Int) (w : World) : Calls Try.prog 48 #[.int .u32 o, .int .u32 lc] w fun e w' => e = .returned (P2 o lc) ∧ Below w.heap.size w w' := by
  go_enter Try.func48, Try.ntmps48
  go_wp2
  go_returns
  exact ⟨rfl, by go_grown⟩
theorem posOffs146_any (o lc : Int) (w : World) : Calls Try.prog 52 #[P2 o lc] w fun e w' => e = .returned (.int .u32 o) ∧ Below w.heap.size w w' := by
  go_enter Try.func52, Try.ntmps52
  go_wp2
  go_ret
  exact ⟨rfl, by go_grown⟩
theorem posLineCol146_any (o lc : Int) (w : World) : Calls Try.prog 53 #[P2 o lc] w fun e w' => e = .returned (.int .u32 lc) ∧ Below w.heap.size w w' := by
  go_enter Try.func53, Try.ntmps53
  go_wp2
  go_ret
  exact ⟨rfl, by go_grown⟩
theorem litWord146_any (o lc : Int) (w : World) : Calls Try.prog 47 #[P2 o lc] w (PtrTo (fun b W => LitW W b 0 0 o lc) w) := by
  go_enter Try.func47, Try.ntmps47
  go_wp2
  go_ret
  exact ⟨w.heap.size + 1 + 1 + 1, rfl, ⟨w.heap.size + 1 + 1, w.heap.size + 1, _, by repeat (first | (refine Bk.newAt ?_; simp; done) | refine Bk.alloc ?_ _ | refine Bk.drew ?_), by repeat (first | (refine Bk.newAt ?_; simp; done) | refine Bk.alloc ?_ _ | refine Bk.drew ?_), by repeat (first | (refine Bk.newAt ?_; simp; done) | refine Bk.alloc ?_ _ | refine Bk.drew ?_)⟩, by go_grown⟩
theorem callStmt146_any (o lc : Int) (neg : Bool) (args : Value) (w : World) (hv : ∃ a n c, args = .slice a n c) : Calls Try.prog 49 #[P2 o lc, .bool neg, args] w
    (PtrTo (fun b W => ∃ bc : Nat, Bk W b 72 (stCells (.slice none 0 0) (.iface 124 (.pointer (some ⟨bc, 0, none⟩))) o lc 0 0 neg false false false (.slice none 0 0)) ∧ Bk W bc 126 #[.slice none 0 0, args]) w) := by
  obtain ⟨a, n, c, rfl⟩ := hv
  go_enter Try.func49, Try.ntmps49
  go_wp2
  go_ret
  exact ⟨w.heap.size + 1 + 1, rfl, ⟨w.heap.size + 1, by repeat (first | (refine Bk.newAt ?_; simp; done) | refine Bk.alloc ?_ _ | refine Bk.drew ?_), by repeat (first | (refine Bk.newAt ?_; simp; done) | refine Bk.alloc ?_ _ | refine Bk.drew ?_)⟩, by go_grown⟩
theorem zzMin146_any (a b : Nat) (w : World) : Calls Try.prog 45 #[.int .i64 (a : Int), .int .i64 (b : Int)] w fun e w' => e = .returned (.int .i64 ((min a b : Nat) : Int)) ∧ w = w' := by
  by_cases h : a < b
  · have e : min a b = a := by omega
    rw [e]
    go_enter Try.func45, Try.ntmps45
    go_wp2
    go_ret
    exact ⟨rfl, rfl⟩
  · have e : min a b = b := by omega
    rw [e]
    go_enter Try.func45, Try.ntmps45
    go_wp2
    go_ret
    exact ⟨rfl, rfl⟩
def SomeBool (w : World) (e : Ending) (w' : World) : Prop := ∃ b : Bool, e = .returned (.bool b) ∧ w = w'
theorem zzBytes146_any (o l : Int) (neg : Bool) (a3 a4 : Option Addr) (la ca lb cb : Nat) (w : World) (h1 : la ≤ 9223372036854775807) (h2 : lb ≤ 9223372036854775807) :
    Calls Try.prog 44 #[.int .u32 o, .int .u32 l, .bool neg, .slice a3 la ca, .slice a4 lb cb] w (SomeBool w) := by
  go_enter Try.func44, Try.ntmps44
  go_wp2
  all_goals (go_ret; exact ⟨_, rfl, rfl⟩)
end Go.Proofs.Ytaampofbcbophaa
