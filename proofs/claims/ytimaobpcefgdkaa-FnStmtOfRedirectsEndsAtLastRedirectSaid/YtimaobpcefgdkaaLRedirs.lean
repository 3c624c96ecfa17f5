/- The walk of FnStmtOfRedirectsEndsAtLastRedirect. -/
import Derived.Test.YtimaobpcefgdkaaRow
import Derived.Test.YtimaobpcefgdkaaWord
import Derived.Test.YtimaobpcefgdkaaStRNilFalse
import Derived.OpenShut
import Derived.Deep.RegionHeld3
import Derived.Deep.QuietTactic
import Derived.BigQuiet
namespace Go.Proofs.Ytimaobpcefgdkaa
open Go.RowKit
theorem zzMk147_eq (o l c : Int) (w : World) (l0 : 0 ≤ l) (l1 : l ≤ 262143) (c0 : 0 ≤ c) (c1 : c ≤ 16383) :
    Calls Try.prog 15 #[.int .u32 o, .int .u32 l, .int .u32 c] w fun e w' => e = .returned (P2 o (l * 16384 + c)) ∧ (w.alloc (.cells #[.int .u32 o, .int .u32 (l * 16384 + c)] 30)).alloc (.cells #[.int .u32 o, .int .u32 (l * 16384 + c)] 30) = w' := by
  have eo := or_col (l * 16384) c (by omega) (by omega) (by omega) (by omega) (by omega)
  go_enter Try.func15, Try.ntmps15
  go_wp2
  go_returns
  exact ⟨rfl, rfl⟩
/-- A redirect over a word of one literal. -/
def Red147 (W : World) (v : Value) (o lc xs xl xe el : Int) : Prop :=
  ∃ rr wd pt lt : Nat, v = .pointer (some ⟨rr, 0, none⟩) ∧ Bk W rr 63 #[.int .u32 o, .int .u32 lc, .int .u32 63, .pointer none, .pointer (some ⟨wd, 0, none⟩), .pointer none] ∧ Bk W wd 37 #[.slice (some ⟨pt, 0, none⟩) 1 1] ∧ Bk W pt 134 #[.iface 28 (.pointer (some ⟨lt, 0, none⟩))] ∧ Bk W lt 33 #[.int .u32 xs, .int .u32 xl, .int .u32 xe, .int .u32 el, .string ⟨#[102]⟩]
theorem Red147.keep {W W1 : World} {v : Value} {o lc xs xl xe el : Int} (h : Red147 W v o lc xs xl xe el) (hb : Below W.heap.size W W1) : Red147 W1 v o lc xs xl xe el := by
  obtain ⟨rr, wd, pt, lt, hv, h1, h2, h3, h4⟩ := h
  exact ⟨rr, wd, pt, lt, hv, h1.keep hb, h2.keep hb, h3.keep hb, h4.keep hb⟩
theorem Red147.grown {W W1 : World} {v : Value} {o lc xs xl xe el : Int} {base g k n : Nat} {ys : List Value} (h : Red147 W v o lc xs xl xe el) (ho : W.ownsRow base 60 1 (.slice (some ⟨g, 0, none⟩) k n) k ys) (hb : W.grownBy W1 (some g)) : Red147 W1 v o lc xs xl xe el := by
  obtain ⟨rr, wd, pt, lt, hv, h1, h2, h3, h4⟩ := h
  exact ⟨rr, wd, pt, lt, hv, h1.grown hb (h1.ne_row ho (by decide)), h2.grown hb (h2.ne_row ho (by decide)), h3.grown hb (h3.ne_row ho (by decide)), h4.grown hb (h4.ne_row ho (by decide))⟩
theorem Red147.end_ {W : World} {rr : Nat} {o lc xs xl xe el : Int} (h : Red147 W (.pointer (some ⟨rr, 0, none⟩)) o lc xs xl xe el) :
    Calls Try.prog 28 #[.pointer (some ⟨rr, 0, none⟩)] W fun e w' => e = .returned (P2 xe el) ∧ Below W.heap.size W w' := by
  obtain ⟨r2, wd, pt, lt, hv, h1, h2, h3, h4⟩ := h
  injection hv with hv; injection hv with hv; injection hv with hv
  subst hv
  exact Redirect_End_word rr wd xe el W (by rw [h1.cells]; rfl) (by rw [h1.cells]; rfl) fun W1 k => Word_End_lit wd pt 0 1 lt xe el W1 (by rw [(h2.keep k).cells]; rfl) (by omega) (by rw [(h3.keep k).cells]; rfl) (by rw [(h4.keep k).cells]; rfl) (by rw [(h4.keep k).cells]; rfl)
theorem Red147.pos_ {W : World} {rr : Nat} {o lc xs xl xe el : Int} (h : Red147 W (.pointer (some ⟨rr, 0, none⟩)) o lc xs xl xe el) :
    Calls Try.prog 26 #[.pointer (some ⟨rr, 0, none⟩)] W fun e w' => e = .returned (P2 o lc) ∧ Below W.heap.size W w' := by
  obtain ⟨r2, wd, pt, lt, hv, h1, h2, h3, h4⟩ := h
  injection hv with hv; injection hv with hv; injection hv with hv
  subst hv
  have hc := h1.cells
  have hlt := h1.lt
  go_enter Try.func26, Try.ntmps26
  go_wp2
  go_returns
  exact ⟨rfl, by go_grown⟩
/-- The element at place j. -/
def El147 (st wl : Int) (j : Nat) (v : Value) (W : World) : Prop :=
  Red147 W v (st + (j : Int) * (wl + 2)) (((j : Int) + 1) * 16384 + 1) (st + (j : Int) * (wl + 2) + 1) (((j : Int) + 1) * 16384 + 2) (st + (j : Int) * (wl + 2) + 1 + wl) (((j : Int) + 1) * 16384 + (2 + wl))
theorem info147 : (Try.prog.info? 60).map (fun i => (i.zero, i.size, i.bytes)) = some (some (.pointer none), 1, 8) := by kernel_rfl
/-- What the tail of the law leans on: the statement, the row's first and last cell, the two redirects. -/
def Rest147 (w : World) (g m bs r0 rl : Nat) (st wl : Int) (W : World) : Prop :=
  Bk W bs 68 (stCells (.slice none 0 0) .nilIface st 16385 0 0 false false false false (.slice (some ⟨g, 0, none⟩) (m + 1) (m + 1))) ∧ W.cell? ⟨g, m, none⟩ = some (.pointer (some ⟨rl, 0, none⟩)) ∧ El147 st wl 0 (.pointer (some ⟨r0, 0, none⟩)) W ∧ El147 st wl m (.pointer (some ⟨rl, 0, none⟩)) W ∧ Below w.heap.size w W
theorem Rest147.keep {w W W1 : World} {g m bs r0 rl : Nat} {st wl : Int} (h : Rest147 w g m bs r0 rl st wl W) (hb : Below W.heap.size W W1) : Rest147 w g m bs r0 rl st wl W1 :=
  ⟨h.1.keep hb, keepc hb h.2.1, Red147.keep h.2.2.1 hb, Red147.keep h.2.2.2.1 hb, bmore h.2.2.2.2 hb⟩
theorem Rest147.drew {w W : World} {g m bs r0 rl : Nat} {st wl : Int} (h : Rest147 w g m bs r0 rl st wl W) : Rest147 w g m bs r0 rl st wl W.drew :=
  h.keep ⟨rfl, rfl, rfl, Nat.le_refl _, fun _ _ => rfl⟩
theorem Rest147.last {w W : World} {g m bs r0 rl : Nat} {st wl : Int} (h : Rest147 w g m bs r0 rl st wl W) : El147 st wl m (.pointer (some ⟨rl, 0, none⟩)) W := h.2.2.2.1
theorem keep147 {w Wp w1 : World} {g m bs r0 rl be : Nat} {st wl : Int} {v0 v1 v2 : Value}
    (hs : Wp.cell? ⟨be, 0, none⟩ = some v0 ∧ Wp.cell? ⟨be, 1, none⟩ = some v1 ∧ Wp.cell? ⟨g, 0, none⟩ = some v2 ∧ Rest147 w g m bs r0 rl st wl Wp) (hb : Below Wp.heap.size Wp w1) :
    w1.cell? ⟨be, 0, none⟩ = some v0 ∧ w1.cell? ⟨be, 1, none⟩ = some v1 ∧ w1.cell? ⟨g, 0, none⟩ = some v2 ∧ Rest147 w g m bs r0 rl st wl w1 :=
  ⟨keepc hb hs.1, keepc hb hs.2.1, keepc hb hs.2.2.1, hs.2.2.2.keep hb⟩
theorem Rest147.stEnd {w W : World} {g m bs r0 rl : Nat} {st wl : Int} (h : Rest147 w g m bs r0 rl st wl W) (s0 : 0 ≤ st) (s1 : st ≤ 4261412852) (hm : m < 4096) (w0 : 1 ≤ wl) (w1 : wl ≤ 4096) :
    Calls Try.prog 27 #[.pointer (some ⟨bs, 0, none⟩)] W fun e w' => e = .returned (P2 (st + (m : Int) * (wl + 2) + 1 + wl) (((m : Int) + 1) * 16384 + (2 + wl))) ∧ Below W.heap.size W w' := by
  have hp0 : 0 ≤ (m : Int) * (wl + 2) := Int.mul_nonneg (by omega) (by omega)
  have hp1 : (m : Int) * (wl + 2) ≤ 4096 * 4098 := Int.mul_le_mul (by omega) (by omega) (by omega) (by omega)
  have ha : aft (st + (m : Int) * (wl + 2) + 1 + wl) (((m : Int) + 1) * 16384 + (2 + wl)) st = true := by
    have : vld (st + (m : Int) * (wl + 2) + 1 + wl) (((m : Int) + 1) * 16384 + (2 + wl)) = true := vld_mk (by omega) (by omega)
    simp only [aft, this, Bool.true_and, decide_eq_true_eq]
    omega
  have c := Stmt_End_nil_false bs g m (m + 1) rl _ _ _ 0 0 (st + (m : Int) * (wl + 2) + 1 + wl) (((m : Int) + 1) * 16384 + (2 + wl)) false false false W h.1 (by decide) (by omega) (by omega) (by omega) (by omega) (by omega) h.2.1 (fun W1 k => (Red147.keep h.2.2.2.1 k).end_)
  rw [ha, if_pos rfl] at c
  exact c
theorem fin147_st {w W : World} {g m bs r0 rl be : Nat} {st wl : Int} {v0 v1 v2 : Value} (h : W.cell? ⟨be, 0, none⟩ = some v0 ∧ W.cell? ⟨be, 1, none⟩ = some v1 ∧ W.cell? ⟨g, 0, none⟩ = some v2 ∧ Rest147 w g m bs r0 rl st wl W) (s0 : 0 ≤ st) (s1 : st ≤ 4261412852) (hm : m < 4096) (w0 : 1 ≤ wl) (w1 : wl ≤ 4096) :
    Calls Try.prog 27 #[.pointer (some ⟨bs, 0, none⟩)] W fun e w' => e = .returned (P2 (st + (m : Int) * (wl + 2) + 1 + wl) (((m : Int) + 1) * 16384 + (2 + wl))) ∧ Below W.heap.size W w' := h.2.2.2.stEnd s0 s1 hm w0 w1
theorem fin147_last {w W : World} {g m bs r0 rl be : Nat} {st wl : Int} {v0 v1 v2 : Value} (h : W.cell? ⟨be, 0, none⟩ = some v0 ∧ W.cell? ⟨be, 1, none⟩ = some v1 ∧ W.cell? ⟨g, 0, none⟩ = some v2 ∧ Rest147 w g m bs r0 rl st wl W) :
    Calls Try.prog 28 #[.pointer (some ⟨rl, 0, none⟩)] W fun e w' => e = .returned (P2 (st + (m : Int) * (wl + 2) + 1 + wl) (((m : Int) + 1) * 16384 + (2 + wl))) ∧ Below W.heap.size W w' := Red147.end_ h.2.2.2.last
theorem fin147_first {w W : World} {g m bs r0 rl be : Nat} {st wl : Int} {v0 v1 v2 : Value} (h : W.cell? ⟨be, 0, none⟩ = some v0 ∧ W.cell? ⟨be, 1, none⟩ = some v1 ∧ W.cell? ⟨g, 0, none⟩ = some v2 ∧ Rest147 w g m bs r0 rl st wl W) :
    Calls Try.prog 28 #[.pointer (some ⟨r0, 0, none⟩)] W fun e w' => e = .returned (P2 (st + 1 + wl) (16384 + (2 + wl))) ∧ Below W.heap.size W w' := by
  have := Red147.end_ h.2.2.2.2.2.1
  simpa using this
def Rel147 (w : World) (g n : Nat) (st wl : Int) (v i : Value) (wr : World) : Prop :=
  ∃ k : Nat, k ≤ n ∧ i = .int .i64 k ∧ v = .slice (some ⟨g, 0, none⟩) k n ∧ RowOf wr w.heap.size g 60 k n (El147 st wl) ∧ Below w.heap.size w wr
set_option maxHeartbeats 8000000 in
set_option maxRecDepth 100000 in
theorem walkFnStmtOfRedirectsEndsAtLastRedirect (a0 : Int) (a1 : Int) (a2 : Int) (w0 : (Lit.int .u32 a0).wf = true) (w1 : (Lit.int .i64 a1).wf = true) (w2 : (Lit.int .u32 a2).wf = true) (w : World) :
    Calls Try.prog 6 #[.int .u32 a0, .int .i64 a1, .int .u32 a2] w fun e w' => e = .returned (.bool true) ∧ Below w.heap.size w w' := by
  have b0 := bounds_u32 w0
  have b1 := bounds_i64 w1
  have b2 := bounds_u32 w2
  clear w0 w1 w2
  by_cases h1 : 4261412852 < a0
  · go_enter Try.func6, Try.ntmps6
    go_wp2_with fail
    go_ret
    exact ⟨rfl, Below.refl _ _⟩
  have h1' : decide (4261412852 < a0) = false := by simpa using h1
  by_cases h2 : a1 < 1
  · go_enter Try.func6, Try.ntmps6
    go_wp2_with fail
    go_ret
    exact ⟨rfl, Below.refl _ _⟩
  have h2' : decide (a1 < 1) = false := by simpa using h2
  by_cases h3 : 4096 < a1
  · go_enter Try.func6, Try.ntmps6
    go_wp2_with fail
    go_ret
    exact ⟨rfl, Below.refl _ _⟩
  have h3' : decide (4096 < a1) = false := by simpa using h3
  by_cases h4 : a2 < 1
  · go_enter Try.func6, Try.ntmps6
    go_wp2_with fail
    go_ret
    exact ⟨rfl, Below.refl _ _⟩
  have h4' : decide (a2 < 1) = false := by simpa using h4
  by_cases h5 : 4096 < a2
  · go_enter Try.func6, Try.ntmps6
    go_wp2_with fail
    go_ret
    exact ⟨rfl, Below.refl _ _⟩
  have h5' : decide (4096 < a2) = false := by simpa using h5
  obtain ⟨n, rfl⟩ : ∃ n : Nat, a1 = (n : Int) := ⟨a1.toNat, by omega⟩
  obtain ⟨i0, hi, hz0, hz1, hz2⟩ := info_parts info147
  have hi2 := Lib.hid hi
  have hz0' := Lib.hid hz0
  have hz1' := Lib.hid hz1
  have hz2' := Lib.hid hz2
  clear hi hz0 hz1 hz2
  go_enter Try.func6, Try.ntmps6
  go_wp2_with (at_make; refine wpList_make_own _ rfl _ _ 59 rfl w.heap.size 60 i0 (.pointer none) 1 Try.underlying59 hi2.out hz0'.out hz1'.out .i64 .i64 (n : Int) n rfl rfl rfl ?c1 ?c2 ?c3 ?_; rotate_left 3; intro wm hown hgr)
  case c1 => have := hz2'.out; rw [this]; omega
  case c2 => unfold maxLen; omega
  have hBm : Below w.heap.size w wm := ⟨hgr.os, hgr.tape, hgr.output, hgr.size, fun i hi => hgr.block i hi (by simp)⟩
  have hr0 : RowOf wm w.heap.size w.heap.size 60 0 n (El147 a0 a2) := ⟨[], hown, fun j v hj => by simp at hj⟩
  clear hown hgr
  go_loopw [7, 8] (fun v i wr => Rel147 w w.heap.size n a0 a2 v i wr) (fun _ i _ => n - (intOf i).toNat)
  case atStart => exact ⟨0, by omega, rfl, rfl, hr0, hBm⟩
  case round =>
    clear hr0 hBm
    obtain ⟨k, hk, rfl, rfl, hrow, hB⟩ := hrel
    by_cases hlt : k < n
    · have hp0 : 0 ≤ (k : Int) * (a2 + 2) := Int.mul_nonneg (by omega) (by omega)
      have hp1 : (k : Int) * (a2 + 2) ≤ 4096 * 4098 := Int.mul_le_mul (by omega) (by omega) (by omega) (by omega)
      have hp2 : (k : Int) * (a2 + 2) ≤ 16785408 := by omega
      have hlt' : (k : Int) < (n : Int) := by omega
      clear hp1
      have sw := hB.size
      go_wp2_with (first | (go_at_call 15; refine (zzMk147_eq _ _ _ _ (by omega) (by omega) (by omega) (by omega)).mono ?_; rintro e w' ⟨rfl, rfl⟩) | (at_builtin; refine wpList_gen (S := fun W => RowOf W w.heap.size w.heap.size 60 k n (El147 a0 a2) ∧ Red147 W (.pointer (some ⟨wr.heap.size + 1 + 1 + 1 + 1 + 1 + 1 + 1 + 1 + 1, 0, none⟩)) (a0 + (k : Int) * (a2 + 2)) (((k : Int) + 1) * 16384 + 1) (a0 + (k : Int) * (a2 + 2) + 1) (((k : Int) + 1) * 16384 + 2) (a0 + (k : Int) * (a2 + 2) + 1 + a2) (((k : Int) + 1) * 16384 + (2 + a2)) ∧ Bk W (wr.heap.size + 1 + 1 + 1 + 1 + 1 + 1 + 1 + 1 + 1 + 1) 60 #[.pointer (some ⟨wr.heap.size + 1 + 1 + 1 + 1 + 1 + 1 + 1 + 1 + 1, 0, none⟩)] ∧ Below w.heap.size w W) ⟨hrow.keep (by go_grown) (fun j v h => h.keep (by go_grown)), ⟨wr.heap.size + 1 + 1 + 1 + 1 + 1 + 1 + 1 + 1 + 1, wr.heap.size + 1 + 1 + 1 + 1 + 1 + 1, wr.heap.size + 1 + 1 + 1 + 1 + 1, wr.heap.size + 1 + 1 + 1 + 1, rfl, (by repeat (first | (refine Bk.newAt ?_; simp; done) | refine Bk.alloc ?_ _ | refine Bk.drew ?_)), (by repeat (first | (refine Bk.newAt ?_; simp; done) | refine Bk.alloc ?_ _ | refine Bk.drew ?_)), (by repeat (first | (refine Bk.newAt ?_; simp; done) | refine Bk.alloc ?_ _ | refine Bk.drew ?_)), (by repeat (first | (refine Bk.newAt ?_; simp; done) | refine Bk.alloc ?_ _ | refine Bk.drew ?_))⟩, (by repeat (first | (refine Bk.newAt ?_; simp; done) | refine Bk.alloc ?_ _ | refine Bk.drew ?_)), by go_grown⟩ ?_; rintro W ⟨hR, hE, hO, hBW⟩; obtain ⟨xs, ho, he⟩ := hR; refine wpList_append_fits _ rfl _ _ 59 rfl w.heap.size 60 i0 1 Try.underlying59 hi2.out hz1'.out w.heap.size k n xs rfl ho ⟨wr.heap.size + 1 + 1 + 1 + 1 + 1 + 1 + 1 + 1 + 1 + 1, 0, none⟩ 1 1 [.pointer (some ⟨wr.heap.size + 1 + 1 + 1 + 1 + 1 + 1 + 1 + 1 + 1, 0, none⟩)] rfl rfl (news_one hO) (by simp [Value.oneCell']) (by omega) ?_; intro w2 ho2 hg2))
      have hrow2 : RowOf w2 w.heap.size w.heap.size 60 (k + 1) n (El147 a0 a2) := RowOf.push he (by simpa using ho.1) hE ho2 (fun j u h => h.grown ho hg2)
      have hB2 := below_grown hBW hg2 (Nat.le_refl _)
      go_roundw
      case rel => exact ⟨k + 1, by omega, by go_num, rfl, hrow2, hB2⟩
      case measure => simp [intOf]; omega
    · obtain rfl : k = n := by omega
      obtain ⟨m, rfl⟩ : ∃ m, k = m + 1 := ⟨k - 1, by omega⟩
      obtain ⟨v0, c0, e0⟩ := hrow.at_ (j := 0) (by omega)
      obtain ⟨vl, cl, el⟩ := hrow.at_ (j := m) (by omega)
      obtain ⟨r0, d1, d2, d3, rfl, q0⟩ := e0
      obtain ⟨rl, f1, f2, f3, rfl, ql⟩ := el
      have e0 : El147 a0 a2 0 (.pointer (some ⟨r0, 0, none⟩)) wr := ⟨r0, d1, d2, d3, rfl, q0⟩
      have el : El147 a0 a2 m (.pointer (some ⟨rl, 0, none⟩)) wr := ⟨rl, f1, f2, f3, rfl, ql⟩
      clear q0 ql hrow
      have i1 : (0 : Int) < (m : Int) + 1 := by omega
      have ng : ¬ ((m : Int) + 1 < (m : Int) + 1) := by omega
      have sw := hB.size
      go_wp2_with fail
      refine (Red147.pos_ e0).mono ?_
      rintro e v1 ⟨rfl, hb⟩
      have c0 := keepc hb c0
      have cl := keepc hb cl
      have e0 : El147 a0 a2 0 (.pointer (some ⟨r0, 0, none⟩)) v1 := Red147.keep e0 hb
      have el : El147 a0 a2 m (.pointer (some ⟨rl, 0, none⟩)) v1 := Red147.keep el hb
      have hB1 := bmore hB hb
      have sv := hB1.size
      clear hb
      have lg : w.heap.size < v1.heap.size := World.block_lt_of_cell? _ _ c0
      have hp0 : 0 ≤ (m : Int) * (a2 + 2) := Int.mul_nonneg (by omega) (by omega)
      have hp1 : (m : Int) * (a2 + 2) ≤ 4096 * 4098 := Int.mul_le_mul (by omega) (by omega) (by omega) (by omega)
      have hp2 : (m : Int) * (a2 + 2) ≤ 16785408 := by omega
      clear hp1
      go_wp2_with (go_at_call 15; refine (zzMk147_eq _ _ _ _ (by omega) (by omega) (by omega) (by omega)).mono ?_; rintro e w' ⟨rfl, rfl⟩)
      refine wp_gen (S := fun W => W.cell? ⟨v1.heap.size + 1 + 1 + 1, 0, none⟩ = some (.int .u32 (a0 + (m : Int) * (a2 + 2) + 1 + a2)) ∧ W.cell? ⟨v1.heap.size + 1 + 1 + 1, 1, none⟩ = some (.int .u32 (((m : Int) + 1) * 16384 + (2 + a2))) ∧ W.cell? ⟨w.heap.size, 0, none⟩ = some (.pointer (some ⟨r0, 0, none⟩)) ∧ Rest147 w w.heap.size m v1.heap.size r0 rl a0 a2 W) ⟨by simp [go_sem], by simp [go_sem], by exact keepc (W := v1) (by go_grown) c0, (by repeat (first | (refine Bk.newAt ?_; simp; done) | refine Bk.alloc ?_ _ | refine Bk.drew ?_)), by exact keepc (W := v1) (by go_grown) cl, by exact Red147.keep e0 (by go_grown), by exact Red147.keep el (by go_grown), by go_grown⟩ ?_
      rintro W ⟨x0, x1, x2, hR⟩
      clear c0 cl e0 el hB1 hB
      go_region_held3 (fun W => W.cell? ⟨v1.heap.size + 1 + 1 + 1, 0, none⟩ = some (.int .u32 (a0 + (m : Int) * (a2 + 2) + 1 + a2)) ∧ W.cell? ⟨v1.heap.size + 1 + 1 + 1, 1, none⟩ = some (.int .u32 (((m : Int) + 1) * 16384 + (2 + a2))) ∧ W.cell? ⟨w.heap.size, 0, none⟩ = some (.pointer (some ⟨r0, 0, none⟩)) ∧ Rest147 w w.heap.size m v1.heap.size r0 rl a0 a2 W) (first | exact ⟨x0, x1, x2, hR.drew⟩ | exact keep147 (by assumption) (by assumption)) (first | (go_at_call 27; refine (fin147_st (by assumption) (by omega) (by omega) (by omega) (by omega) (by omega)).mono ?_; rintro e w' ⟨rfl, hb⟩) | (go_at_call 28; refine (fin147_last (by assumption)).mono ?_; rintro e w' ⟨rfl, hb⟩))
      rename_i hH
      obtain ⟨y0, y1, y2, hR2⟩ := hH
      clear x0 x1 x2 hR
      by_cases hm : m = 0
      · have g1 : decide ((1 : Int) < (m : Int) + 1) = false := by simp; omega
        clear hm
        go_wp2_with fail
        go_quiet (fail)
        go_wp2
        go_ret
        exact ⟨rfl, bdrewN hR2.2.2.2.2 _⟩
      · have g1 : decide ((1 : Int) < (m : Int) + 1) = true := by simp; omega
        have g2 : (1 : Int) < (m : Int) + 1 := by omega
        have q : aft (a0 + (m : Int) * (a2 + 2) + 1 + a2) (((m : Int) + 1) * 16384 + (2 + a2)) (a0 + 1 + a2) = true := by
          have h3 : 1 * 1 ≤ (m : Int) * (a2 + 2) := Int.mul_le_mul (by omega) (by omega) (by omega) (by omega)
          have : vld (a0 + (m : Int) * (a2 + 2) + 1 + a2) (((m : Int) + 1) * 16384 + (2 + a2)) = true := vld_mk (by omega) (by omega)
          simp only [aft, this, Bool.true_and, decide_eq_true_eq]
          omega
        clear hm
        go_wp2_with fail
        go_region_held3 (fun W => W.cell? ⟨v1.heap.size + 1 + 1 + 1, 0, none⟩ = some (.int .u32 (a0 + (m : Int) * (a2 + 2) + 1 + a2)) ∧ W.cell? ⟨v1.heap.size + 1 + 1 + 1, 1, none⟩ = some (.int .u32 (((m : Int) + 1) * 16384 + (2 + a2))) ∧ W.cell? ⟨w.heap.size, 0, none⟩ = some (.pointer (some ⟨r0, 0, none⟩)) ∧ Rest147 w w.heap.size m v1.heap.size r0 rl a0 a2 W) (first | exact ⟨y0, y1, y2, hR2.drew⟩ | exact keep147 (by assumption) (by assumption)) (first | (go_at_call_of 28 (Value.pointer (some ⟨rl, 0, none⟩)); refine (fin147_last (by assumption)).mono ?_; rintro e w' ⟨rfl, hb⟩) | (go_at_call_of 28 (Value.pointer (some ⟨r0, 0, none⟩)); refine (fin147_first (by assumption)).mono ?_; rintro e w' ⟨rfl, hb⟩) | (go_at_call 29; refine (after_any _ _ _ _ _).mono ?_; rintro e w' ⟨rfl, hb⟩))
        rename_i hH
        have hBB := hH.2.2.2.2.2.2.2
        clear hH
        go_wp2
        go_ret
        exact ⟨rfl, hBB⟩
end Go.Proofs.Ytimaobpcefgdkaa
