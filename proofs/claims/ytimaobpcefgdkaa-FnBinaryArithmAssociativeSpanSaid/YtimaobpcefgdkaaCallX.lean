/- Calls built of assignments and words: CallExpr.Pos and End, and the elements that the law lays. -/
import Derived.Test.YtimaobpcefgdkaaAsn
import Derived.Test.YtimaobpcefgdkaaSrc
import Derived.Test.YtimaobpcefgdkaaStep
namespace Go.Proofs.Ytimaobpcefgdkaa
open Go.RowKit
theorem block_of_add (a : Addr) (n : Nat) : (a.add n).block = a.block := by unfold Addr.add; split <;> rfl
/-- A word of one literal, with all four numbers of its span. -/
def LitW (W : World) (wd : Nat) (xs xl xe el : Int) : Prop :=
  ∃ (pt lt : Nat) (s : ByteArray), Bk W wd 37 #[.slice (some ⟨pt, 0, none⟩) 1 1] ∧ Bk W pt 134 #[.iface 28 (.pointer (some ⟨lt, 0, none⟩))] ∧ Bk W lt 33 #[.int .u32 xs, .int .u32 xl, .int .u32 xe, .int .u32 el, .string s]
theorem LitW.keep {W W1 : World} {wd : Nat} {xs xl xe el : Int} (h : LitW W wd xs xl xe el) (hb : Below W.heap.size W W1) : LitW W1 wd xs xl xe el := by
  obtain ⟨pt, lt, s, h1, h2, h3⟩ := h
  exact ⟨pt, lt, s, h1.keep hb, h2.keep hb, h3.keep hb⟩
theorem LitW.grown {W W1 : World} {wd : Nat} {xs xl xe el : Int} {base g k n : Nat} {ys : List Value} {t : TypeId} (h : LitW W wd xs xl xe el) (h1 : 37 ≠ t) (h2 : 134 ≠ t) (h3 : 33 ≠ t) (ho : W.ownsRow base t 1 (.slice (some ⟨g, 0, none⟩) k n) k ys) (hb : W.grownBy W1 (some g)) : LitW W1 wd xs xl xe el := by
  obtain ⟨pt, lt, s, k1, k2, k3⟩ := h
  exact ⟨pt, lt, s, k1.grown hb (k1.ne_row ho h1), k2.grown hb (k2.ne_row ho h2), k3.grown hb (k3.ne_row ho h3)⟩
theorem LitW.end_ {W : World} {wd : Nat} {xs xl xe el : Int} (h : LitW W wd xs xl xe el) :
    Calls Try.prog 64 #[.pointer (some ⟨wd, 0, none⟩)] W fun e w' => e = .returned (P2 xe el) ∧ Below W.heap.size W w' := by
  obtain ⟨pt, lt, s, h1, h2, h3⟩ := h
  exact Word_End_lit wd pt 0 1 lt xe el W (by rw [h1.cells]; rfl) (by omega) (by rw [h2.cells]; rfl) (by rw [h3.cells]; rfl) (by rw [h3.cells]; rfl)
theorem LitW.pos_ {W : World} {wd : Nat} {xs xl xe el : Int} (h : LitW W wd xs xl xe el) :
    Calls Try.prog 65 #[.pointer (some ⟨wd, 0, none⟩)] W fun e w' => e = .returned (P2 xs xl) ∧ Below W.heap.size W w' := by
  obtain ⟨pt, lt, s, h1, h2, h3⟩ := h
  exact Word_Pos_lit wd pt 0 1 lt xs xl W (by rw [h1.cells]; rfl) (by omega) (by rw [h2.cells]; rfl) (by rw [h3.cells]; rfl) (by rw [h3.cells]; rfl)
/-- An assignment: a name literal and a word as its value. -/
def AsnV (W : World) (b : Nat) (o lc eo el : Int) : Prop :=
  ∃ (bn bw : Nat) (c0 c1 c5 x2 x3 s : Value) (xs xl : Int), Bk W bn 33 #[.int .u32 o, .int .u32 lc, x2, x3, s] ∧ LitW W bw xs xl eo el ∧ Bk W b 42 #[c0, c1, .pointer (some ⟨bn, 0, none⟩), .nilIface, .pointer (some ⟨bw, 0, none⟩), c5]
theorem AsnV.keep {W W1 : World} {b : Nat} {o lc eo el : Int} (h : AsnV W b o lc eo el) (hb : Below W.heap.size W W1) : AsnV W1 b o lc eo el := by
  obtain ⟨bn, bw, c0, c1, c5, x2, x3, s, xs, xl, h1, h2, h3⟩ := h
  exact ⟨bn, bw, c0, c1, c5, x2, x3, s, xs, xl, h1.keep hb, h2.keep hb, h3.keep hb⟩
theorem AsnV.grown {W W1 : World} {b : Nat} {o lc eo el : Int} {base g k n : Nat} {ys : List Value} (h : AsnV W b o lc eo el) (ho : W.ownsRow base 27 1 (.slice (some ⟨g, 0, none⟩) k n) k ys) (hb : W.grownBy W1 (some g)) : AsnV W1 b o lc eo el := by
  obtain ⟨bn, bw, c0, c1, c5, x2, x3, s, xs, xl, h1, h2, h3⟩ := h
  exact ⟨bn, bw, c0, c1, c5, x2, x3, s, xs, xl, h1.grown hb (h1.ne_row ho (by decide)), h2.grown (by decide) (by decide) (by decide) ho hb, h3.grown hb (h3.ne_row ho (by decide))⟩
theorem AsnV.pos_ {W : World} {b : Nat} {o lc eo el : Int} (h : AsnV W b o lc eo el) :
    Calls Try.prog 72 #[.pointer (some ⟨b, 0, none⟩)] W fun e w' => e = .returned (P2 o lc) ∧ Below W.heap.size W w' := by
  obtain ⟨bn, bw, c0, c1, c5, x2, x3, s, xs, xl, h1, h2, h3⟩ := h
  exact Assign_Pos_name b bn o lc W (by rw [h3.cells]; rfl) (by rw [h1.cells]; rfl) (by rw [h1.cells]; rfl)
theorem AsnV.end_ {W : World} {b : Nat} {o lc eo el : Int} (h : AsnV W b o lc eo el) :
    Calls Try.prog 73 #[.pointer (some ⟨b, 0, none⟩)] W fun e w' => e = .returned (P2 eo el) ∧ Below W.heap.size W w' := by
  obtain ⟨bn, bw, c0, c1, c5, x2, x3, s, xs, xl, h1, h2, h3⟩ := h
  exact Assign_End_value b bw eo el W (by rw [h3.cells]; rfl) (fun W1 hb => (h2.keep hb).end_)
set_option maxRecDepth 100000 in
theorem CallExpr_End_args (b g m cap rl : Nat) (o lc : Int) (w : World) (hA : w.cell? ⟨b, 1, none⟩ = some (.slice (some ⟨g, 0, none⟩) (m + 1) cap)) (hm : m ≤ 4611686018427387904) (hp : w.cell? ⟨g, m, none⟩ = some (.pointer (some ⟨rl, 0, none⟩)))
    (hend : ∀ W, Below w.heap.size w W → Calls Try.prog 64 #[.pointer (some ⟨rl, 0, none⟩)] W fun e w' => e = .returned (P2 o lc) ∧ Below W.heap.size W w') :
    Calls Try.prog 17 #[.pointer (some ⟨b, 0, none⟩)] w fun e w' => e = .returned (P2 o lc) ∧ Below w.heap.size w w' := by
  have lb := World.block_lt_of_cell? _ _ hA
  have lp := World.block_lt_of_cell? _ _ hp
  have HE := Lib.hid hend
  clear hend
  go_enter Try.func17, Try.ntmps17
  go_wp2
  refine wp_gen (S := fun W => W.cell? ⟨b, 1, none⟩ = some (.slice (some ⟨g, 0, none⟩) (m + 1) cap) ∧ W.cell? ⟨g, m, none⟩ = some (.pointer (some ⟨rl, 0, none⟩)) ∧ Bk W w.heap.size 30 #[.int .u32 0, .int .u32 0] ∧ Below w.heap.size w W) ⟨by simp [go_sem, hA, lb], by simp [go_sem, hp, lp], Bk.fresh _ _ _, by go_grown⟩ ?_
  clear hA hp
  rintro W ⟨hA, hp, kR, hB⟩
  have i0 : (0 : Int) ≤ (m : Int) := Int.natCast_nonneg _
  have i1 : (m : Int) < (m : Int) + 1 := by omega
  have iw : IntKind.i64.wrap (m : Int) = (m : Int) := IntWalk.i64_in _ (by omega)
  go_still_tail 12, (by kernel_rfl)
  change wpList _ _ _ _ _ W.drew
  clear iw i0 i1
  go_wp2_with fail
  refine (HE.out W.drew hB.drew).mono ?_
  rintro e w1 ⟨rfl, hb⟩
  have kR1 := kR.drew.keep hb
  have B1 := bmore (w := w) hB.drew hb
  clear hb kR hB hA hp
  have cR := kR1.cells
  have fR := kR1.frz
  go_wp2
  refine bodyPost_ret (v := P2 o lc) (by simp [results, Try.results17, go_sem, cR]) rfl ⟨rfl, ?_⟩
  go_grown
set_option maxRecDepth 100000 in
theorem CallExpr_End_assigns (b g m cap rl c2 : Nat) (a2 : Option Addr) (o lc : Int) (w : World) (h1 : w.cell? ⟨b, 1, none⟩ = some (.slice a2 0 c2)) (hA : w.cell? ⟨b, 0, none⟩ = some (.slice (some ⟨g, 0, none⟩) (m + 1) cap)) (hm : m ≤ 4611686018427387904) (hp : w.cell? ⟨g, m, none⟩ = some (.pointer (some ⟨rl, 0, none⟩)))
    (hend : ∀ W, Below w.heap.size w W → Calls Try.prog 73 #[.pointer (some ⟨rl, 0, none⟩)] W fun e w' => e = .returned (P2 o lc) ∧ Below W.heap.size W w') :
    Calls Try.prog 17 #[.pointer (some ⟨b, 0, none⟩)] w fun e w' => e = .returned (P2 o lc) ∧ Below w.heap.size w w' := by
  have lb := World.block_lt_of_cell? _ _ hA
  have lp := World.block_lt_of_cell? _ _ hp
  have HE := Lib.hid hend
  clear hend
  go_enter Try.func17, Try.ntmps17
  go_wp2
  refine wp_gen (S := fun W => W.cell? ⟨b, 0, none⟩ = some (.slice (some ⟨g, 0, none⟩) (m + 1) cap) ∧ W.cell? ⟨g, m, none⟩ = some (.pointer (some ⟨rl, 0, none⟩)) ∧ Bk W w.heap.size 30 #[.int .u32 0, .int .u32 0] ∧ Below w.heap.size w W) ⟨by simp [go_sem, hA, lb], by simp [go_sem, hp, lp], Bk.fresh _ _ _, by go_grown⟩ ?_
  clear hA hp h1
  rintro W ⟨hA, hp, kR, hB⟩
  have i0 : (0 : Int) ≤ (m : Int) := Int.natCast_nonneg _
  have i1 : (m : Int) < (m : Int) + 1 := by omega
  have iw : IntKind.i64.wrap (m : Int) = (m : Int) := IntWalk.i64_in _ (by omega)
  go_still_tail 12, (by kernel_rfl)
  change wpList _ _ _ _ _ W.drew
  clear iw i0 i1
  go_wp2_with fail
  refine (HE.out W.drew hB.drew).mono ?_
  rintro e w1 ⟨rfl, hb⟩
  have kR1 := kR.drew.keep hb
  have B1 := bmore (w := w) hB.drew hb
  clear hb kR hB hA hp
  have cR := kR1.cells
  have fR := kR1.frz
  go_wp2
  refine bodyPost_ret (v := P2 o lc) (by simp [results, Try.results17, go_sem, cR]) rfl ⟨rfl, ?_⟩
  go_grown
theorem CallExpr_Pos_assigns (b g m cap rl : Nat) (o lc : Int) (w : World) (hA : w.cell? ⟨b, 0, none⟩ = some (.slice (some ⟨g, 0, none⟩) (m + 1) cap)) (hp : w.cell? ⟨g, 0, none⟩ = some (.pointer (some ⟨rl, 0, none⟩)))
    (hend : ∀ W, Below w.heap.size w W → Calls Try.prog 72 #[.pointer (some ⟨rl, 0, none⟩)] W fun e w' => e = .returned (P2 o lc) ∧ Below W.heap.size W w') :
    Calls Try.prog 16 #[.pointer (some ⟨b, 0, none⟩)] w fun e w' => e = .returned (P2 o lc) ∧ Below w.heap.size w w' := by
  have lb := World.block_lt_of_cell? _ _ hA
  have lp := World.block_lt_of_cell? _ _ hp
  have i1 : (0 : Int) < (m : Int) + 1 := by omega
  have HE := Lib.hid hend
  clear hend
  go_enter Try.func16, Try.ntmps16
  go_wp2_with (go_at_call 72; refine (HE.out _ (by go_grown)).mono ?_; rintro e w1 ⟨rfl, hb⟩; obtain ⟨hc, hf, hz, hB, hs⟩ := bcell (w := w) (by go_grown) hb; clear hb)
  refine bodyPost_ret (v := P2 o lc) (by simp [results, Try.results16, go_sem, hc]) rfl ⟨rfl, ?_⟩
  go_grown
theorem CallExpr_Pos_args (b g m cap rl c2 : Nat) (a2 : Option Addr) (o lc : Int) (w : World) (h0 : w.cell? ⟨b, 0, none⟩ = some (.slice a2 0 c2)) (hA : w.cell? ⟨b, 1, none⟩ = some (.slice (some ⟨g, 0, none⟩) (m + 1) cap)) (hp : w.cell? ⟨g, 0, none⟩ = some (.pointer (some ⟨rl, 0, none⟩)))
    (hend : ∀ W, Below w.heap.size w W → Calls Try.prog 65 #[.pointer (some ⟨rl, 0, none⟩)] W fun e w' => e = .returned (P2 o lc) ∧ Below W.heap.size W w') :
    Calls Try.prog 16 #[.pointer (some ⟨b, 0, none⟩)] w fun e w' => e = .returned (P2 o lc) ∧ Below w.heap.size w w' := by
  have lb := World.block_lt_of_cell? _ _ hA
  have lp := World.block_lt_of_cell? _ _ hp
  have i1 : (0 : Int) < (m : Int) + 1 := by omega
  have HE := Lib.hid hend
  clear hend
  go_enter Try.func16, Try.ntmps16
  go_wp2_with (go_at_call 65; refine (HE.out _ (by go_grown)).mono ?_; rintro e w1 ⟨rfl, hb⟩; obtain ⟨hc, hf, hz, hB, hs⟩ := bcell (w := w) (by go_grown) hb; clear hb)
  refine bodyPost_ret (v := P2 o lc) (by simp [results, Try.results16, go_sem, hc]) rfl ⟨rfl, ?_⟩
  go_grown
theorem mk147_eq (o l c : Int) (w : World) (l0 : 0 ≤ l) (l1 : l ≤ 262143) (c0 : 0 ≤ c) (c1 : c ≤ 16383) :
    Calls Try.prog 15 #[.int .u32 o, .int .u32 l, .int .u32 c] w fun e w' => e = .returned (P2 o (l * 16384 + c)) ∧ (w.alloc (.cells #[.int .u32 o, .int .u32 (l * 16384 + c)] 30)).alloc (.cells #[.int .u32 o, .int .u32 (l * 16384 + c)] 30) = w' := by
  have eo := or_col (l * 16384) c (by omega) (by omega) (by omega) (by omega) (by omega)
  go_enter Try.func15, Try.ntmps15
  go_wp2
  go_returns
  exact ⟨rfl, rfl⟩
theorem zzBytes147_any (a1 a2 : Option Addr) (la ca lb cb : Nat) (w : World) (h1 : la ≤ 9223372036854775807) (h2 : lb ≤ 9223372036854775807) :
    Calls Try.prog 13 #[.slice a1 la ca, .slice a2 lb cb] w fun e w' => ∃ b : Bool, e = .returned (.bool b) ∧ w = w' := by
  go_enter Try.func13, Try.ntmps13
  go_wp2
  all_goals (go_ret; exact ⟨_, rfl, rfl⟩)
end Go.Proofs.Ytimaobpcefgdkaa
