/- zzSubshellChain_b2: the chain of nested subshells. -/
import Derived.Test.YtnjdffnbkjjmeaaRPT
import Derived.Test.YtnjdffnbkjjmeaaSrc
namespace Go.Proofs.Ytnjdffnbkjjmeaa
open Go.RowKit
theorem RowF.alloc {W : World} {base g n : Nat} {e : TypeId} {f : Nat → Value} (h : RowF W base g e n f) (o : Obj) : RowF (W.alloc o) base g e n f := h.keep ((Below.refl _ _).alloc (Nat.le_refl _) _)
theorem RowF.grown2 {W W1 : World} {base g n : Nat} {e : TypeId} {f : Nat → Value} {row : Option Nat} (h : RowF W base g e n f) (hb : W.grownBy W1 row) (hne : some g ≠ row) : RowF W1 base g e n f := by
  obtain ⟨xs, ho, he⟩ := h
  exact ⟨xs, ho.kept hb (.inr (by simpa [Value.ownBlock] using hne)), he⟩
theorem grown_setCell (w : World) (g i : Nat) (u : Value) : w.grownBy (w.setCell ⟨g, i, none⟩ u) (some g) :=
  ⟨rfl, rfl, rfl, by simp [World.setCell], fun k _ hne => Below.heap_setCell w _ _ k (fun e => hne (by rw [e]))⟩
/-- A level: a list of one statement, a subshell over 'next', with the flag of kind q (5: none). -/
def Lv (lo : Nat) (v next : Value) (q : Nat) (W : World) : Prop := ∃ (lb st sb : Nat) (ra : Option Addr) (rn : Nat), v = .slice (some ⟨lb, 0, none⟩) 1 1 ∧ W.cell? ⟨lb, 0, none⟩ = some (.pointer (some ⟨st, 0, none⟩)) ∧ W.cell? ⟨st, 1, none⟩ = some (.iface 158 (.pointer (some ⟨sb, 0, none⟩))) ∧
  W.cell? ⟨st, 6, none⟩ = some (.bool (decide (q = 0))) ∧ W.cell? ⟨st, 7, none⟩ = some (.bool (decide (q = 1))) ∧ W.cell? ⟨st, 8, none⟩ = some (.bool (decide (q = 2))) ∧ W.cell? ⟨st, 9, none⟩ = some (.bool (decide (q = 3))) ∧ W.cell? ⟨st, 10, none⟩ = some (.slice ra rn rn) ∧ rn = (if q = 4 then 1 else 0) ∧ W.cell? ⟨sb, 4, none⟩ = some next ∧ lo < lb ∧ lo < st ∧ lo < sb
theorem Lv.move {lo : Nat} {v next : Value} {q : Nat} {W W1 : World} (h : Lv lo v next q W) (hc : ∀ p u, lo < p.block → W.cell? p = some u → W1.cell? p = some u) : Lv lo v next q W1 := by
  obtain ⟨lb, st, sb, ra, rn, e, h1, h2, h3, h4, h5, h6, h7, h8, h9, l1, l2, l3⟩ := h
  exact ⟨lb, st, sb, ra, rn, e, hc _ _ l1 h1, hc _ _ l2 h2, hc _ _ l2 h3, hc _ _ l2 h4, hc _ _ l2 h5, hc _ _ l2 h6, hc _ _ l2 h7, h8, hc _ _ l3 h9, l1, l2, l3⟩
theorem Lv.keep {lo : Nat} {v next : Value} {q : Nat} {W W1 : World} (h : Lv lo v next q W) (hb : Below W.heap.size W W1) : Lv lo v next q W1 := h.move (fun _ _ _ hc => keepc hb hc)
theorem Lv.grown {g : Nat} {v next : Value} {q : Nat} {W W1 : World} (h : Lv g v next q W) (hb : W.grownBy W1 (some g)) : Lv g v next q W1 :=
  h.move (fun p _ hl hc => hb.cell hc (by intro e; injection e with e; omega))
/-- A plain command. -/
def Leaf (lo hi : Nat) (v : Value) (W : World) : Prop := ∃ (a c : Nat), v = .pointer (some ⟨a, 0, none⟩) ∧ W.cell? ⟨a, 1, none⟩ = some (.iface 153 (.pointer (some ⟨c, 0, none⟩))) ∧ W.cell? ⟨a, 6, none⟩ = some (.bool false) ∧ W.cell? ⟨a, 7, none⟩ = some (.bool false) ∧ W.cell? ⟨a, 8, none⟩ = some (.bool false) ∧ W.cell? ⟨a, 9, none⟩ = some (.bool false) ∧ W.cell? ⟨a, 10, none⟩ = some (.slice none 0 0) ∧ lo < a ∧ a < hi
theorem Leaf.move {lo hi : Nat} {v : Value} {W W1 : World} (h : Leaf lo hi v W) (hc : ∀ p u, lo < p.block → p.block < hi → W.cell? p = some u → W1.cell? p = some u) : Leaf lo hi v W1 := by
  obtain ⟨a, c, e, h1, h2, h3, h4, h5, h6, l1, l2⟩ := h
  exact ⟨a, c, e, hc _ _ l1 l2 h1, hc _ _ l1 l2 h2, hc _ _ l1 l2 h3, hc _ _ l1 l2 h4, hc _ _ l1 l2 h5, hc _ _ l1 l2 h6, l1, l2⟩
theorem Leaf.keep {lo hi : Nat} {v : Value} {W W1 : World} (h : Leaf lo hi v W) (hb : Below W.heap.size W W1) : Leaf lo hi v W1 := h.move (fun _ _ _ _ hc => keepc hb hc)
theorem Leaf.grown {lo hi g : Nat} {v : Value} {W W1 : World} (h : Leaf lo hi v W) (hb : W.grownBy W1 (some g)) (hg : g ≤ lo ∨ hi ≤ g) : Leaf lo hi v W1 :=
  h.move (fun p _ l1 l2 hc => hb.cell hc (by intro e; injection e with e; omega))
theorem Leaf.hi {lo hi hi' : Nat} {v : Value} {W : World} (h : Leaf lo hi v W) (hh : hi ≤ hi') : Leaf lo hi' v W := by
  obtain ⟨a, c, e, h1, h2, h3, h4, h5, h6, l1, l2⟩ := h
  exact ⟨a, c, e, h1, h2, h3, h4, h5, h6, l1, by omega⟩
theorem makeSt (n : Nat) (hn : n ≤ 1048576) (W : World) : (Instr.makeSlice 24 (.int .i64 (n : Int)) (.int .i64 (n : Int))).run Try.prog W = .ok (.slice (some ⟨W.heap.size, 0, none⟩) n n) (W.alloc (.cells (madeCells #[.pointer none] n) 28)) :=
  makeN 24 28 (.pointer none) 8 Try.underlying24 (by kernel_rfl) rfl n (by omega) (by omega) W
theorem makeLs (n : Nat) (hn : n ≤ 1048576) (W : World) : (Instr.makeSlice 22 (.int .i64 ((n : Int) + 1)) (.int .i64 ((n : Int) + 1))).run Try.prog W = .ok (.slice (some ⟨W.heap.size, 0, none⟩) (n + 1) (n + 1)) (W.alloc (.cells (madeCells #[.slice none 0 0] (n + 1)) 24)) := by
  have h := makeN (P := Try.prog) 22 24 (.slice none 0 0) 24 Try.underlying22 (by kernel_rfl) rfl (n + 1) (by omega) (by omega) W
  simpa using h
/-- The flag of level j. -/
def qf (at_ : Int) (kind : Nat) (j : Nat) : Nat := if (j : Int) = at_ then kind else 5
def RelL1 (w : World) (m : Nat) (i : Value) (wr : World) : Prop :=
  ∃ (k : Nat) (f : Nat → Value), k ≤ m ∧ i = .int .i64 k ∧ RowF wr w.heap.size w.heap.size 28 m f ∧ (∀ j, j < k → Leaf w.heap.size wr.heap.size (f j) wr) ∧ Below w.heap.size w wr
def RelL2 (w : World) (gL D m : Nat) (at_ : Int) (kind : Nat) (lf : Nat → Value) (i : Value) (wr : World) : Prop :=
  ∃ (t : Nat) (f : Nat → Value), t ≤ D ∧ i = .int .i64 ((t : Int) - 1) ∧ RowF wr gL gL 24 (D + 1) f ∧ (∀ j, t ≤ j → j < D → Lv gL (f j) (f (j + 1)) (qf at_ kind j) wr) ∧ f D = .slice (some ⟨w.heap.size, 0, none⟩) m m ∧ RowF wr w.heap.size w.heap.size 28 m lf ∧ (∀ j, j < m → Leaf w.heap.size gL (lf j) wr) ∧ Below w.heap.size w wr
/-- What zzSubshellChain_b2 answers. -/
def SSC (w : World) (D m : Nat) (at_ : Int) (kind : Nat) (e : Ending) (w' : World) : Prop :=
  ∃ (gL gl : Nat) (f lf : Nat → Value), e = .returned (.slice (some ⟨gL, 0, none⟩) (D + 1) (D + 1)) ∧ RowF w' gL gL 24 (D + 1) f ∧ (∀ j, j < D → Lv gL (f j) (f (j + 1)) (qf at_ kind j) w') ∧ f D = .slice (some ⟨gl, 0, none⟩) m m ∧ RowF w' gl gl 28 m lf ∧ (∀ j, j < m → Leaf gl gL (lf j) w') ∧ Below w.heap.size w w'
theorem lv_shape {D m gl gL : Nat} {at_ : Int} {kind t : Nat} {f : Nat → Value} {W : World} (h : ∀ j, t ≤ j → j < D → Lv gL (f j) (f (j + 1)) (qf at_ kind j) W) (hD : f D = .slice (some ⟨gl, 0, none⟩) m m) (ht : t ≤ D) : ∃ a n c, f t = .slice a n c := by
  by_cases e : t = D
  · subst e; exact ⟨_, _, _, hD⟩
  · obtain ⟨lb, st, sb, ra, rn, e, _⟩ := h t (Nat.le_refl _) (by omega)
    exact ⟨_, _, _, e⟩
theorem rel2_step {w wr W2 : World} {gL D m j kind : Nat} {at_ : Int} {v : Value} {f1 lf : Nat → Value} (hG : wr.grownBy W2 (some gL)) (hR2 : RowF W2 gL gL 24 (D + 1) (fun i => if i = j then v else f1 i)) (hv : Lv gL v (f1 (j + 1)) (qf at_ kind j) W2) (hLv : ∀ i, j + 1 ≤ i → i < D → Lv gL (f1 i) (f1 (i + 1)) (qf at_ kind i) wr) (hfD : f1 D = .slice (some ⟨w.heap.size, 0, none⟩) m m)
    (hRl : RowF wr w.heap.size w.heap.size 28 m lf) (hLl : ∀ j, j < m → Leaf w.heap.size gL (lf j) wr) (hB : Below w.heap.size w wr) (hgl : w.heap.size < gL) (hj : j + 1 ≤ D) : RelL2 w gL D m at_ kind lf (.int .i64 ((j : Int) - 1)) W2 := by
  refine ⟨j, _, by omega, rfl, hR2, fun i h1 h2 => ?_, ?_, hRl.grown2 hG (by simp; omega), fun i hi => (hLl i hi).grown hG (.inr (Nat.le_refl _)), below_grown hB hG (by omega)⟩
  · by_cases hij : i = j
    · subst hij
      simp only [if_pos]
      rw [if_neg (by omega)]
      exact hv
    · simp only [if_neg hij]
      rw [if_neg (by omega)]
      exact (hLv i (by omega) h2).grown hG
  · rw [if_neg (by omega)]
    exact hfD
set_option maxHeartbeats 4000000 in
set_option maxRecDepth 100000 in
theorem chain153 (D m : Nat) (at_ : Int) (kind : Nat) (hD : D ≤ 65536) (hm : m ≤ 65536) (hk : kind ≤ 4) (w : World) :
    Calls Try.prog 13 #[.int .i64 (D : Int), .int .i64 at_, .int .i64 (kind : Int), .int .i64 (m : Int)] w (SSC w D m at_ kind) := by
  have hm1 := makeSt m (by omega)
  go_enter Try.func13, Try.ntmps13
  go_wp2
  refine wp_gen (S := fun W => RowF W w.heap.size w.heap.size 28 m (fun _ => .pointer none) ∧ Below w.heap.size w W) ⟨RowF.fresh _ _ _ (Nat.le_refl _) (by unfold maxLen; omega), by go_grown⟩ ?_
  rintro W ⟨hR, hB⟩
  clear hm1
  go_loopw [10] (fun i wr => RelL1 w m i wr) (fun i _ => m - (intOf i).toNat)
  case atStart => exact ⟨0, _, by omega, by go_num, hR, fun j hj => absurd hj (by omega), hB⟩
  case round =>
    clear hR hB
    obtain ⟨k, f, hk2, rfl, hR, hL, hB⟩ := hrel
    have sB := hB.size
    by_cases hlt : k < m
    · have hlt' : (k : Int) < (m : Int) := by omega
      have hd := hR.cell hlt
      have hfz := hR.frz k
      have hg := hR.lt.2
      have HR := Lib.hid hR
      have HL := Lib.hid hL
      clear hR hL
      go_wp2
      go_roundw
      case rel =>
        have hG : wr.grownBy (((wr.setCell ⟨w.heap.size, k, none⟩ (.pointer (some ⟨wr.heap.size + 1, 0, none⟩))).alloc (.cells #[.slice none 0 0, .slice none 0 0] 157)).alloc (.cells #[.slice none 0 0, .iface 153 (.pointer (some ⟨wr.heap.size, 0, none⟩)), .int .u32 0, .int .u32 0, .int .u32 0, .int .u32 0, .bool false, .bool false, .bool false, .bool false, .slice none 0 0] 37)) (some w.heap.size) := ((grown_setCell wr _ k _).trans (World.grownBy_alloc _ _ _)).trans (World.grownBy_alloc _ _ _)
        refine ⟨k + 1, fun j => if j = k then .pointer (some ⟨wr.heap.size + 1, 0, none⟩) else f j, by omega, by go_num, ((HR.out.put _).alloc _).alloc _, fun j hj => ?_, ?_⟩
        · by_cases hjk : j = k
          · subst hjk
            simp only [if_pos]
            exact ⟨wr.heap.size + 1, wr.heap.size, rfl, by simp [go_sem], by simp [go_sem], by simp [go_sem], by simp [go_sem], by simp [go_sem], by simp [go_sem], by omega, by simp⟩
          · simp only [if_neg hjk]
            exact ((HL.out j (by omega)).grown hG (.inl (Nat.le_refl _))).hi (by simp; omega)
        · exact ((hB.setCell (Nat.le_refl _) _).alloc (by rw [size_setCell]; exact sB) _).alloc (by simp; omega) _
      case measure => simp [intOf]; omega
    · obtain rfl : k = m := by omega
      have hge : ¬ (k : Int) < (k : Int) := by omega
      obtain ⟨wo, hwo⟩ : ∃ wo, wo = wr := ⟨_, rfl⟩
      subst hwo
      have lg := hR.lt.2
      have HR := Lib.hid hR
      have HL := Lib.hid hL
      clear hR hL
      obtain ⟨W1, hm3, hRL, hBL⟩ : ∃ W1, (Instr.makeSlice 22 (.int .i64 ((D : Int) + 1)) (.int .i64 ((D : Int) + 1))).run Try.prog wo = .ok (.slice (some ⟨wo.heap.size, 0, none⟩) (D + 1) (D + 1)) W1 ∧ RowF W1 wo.heap.size wo.heap.size 24 (D + 1) (fun _ => .slice none 0 0) ∧ Below wo.heap.size wo W1 :=
        ⟨_, makeLs D (by omega) wo, RowF.fresh _ _ _ (Nat.le_refl _) (by unfold maxLen; omega), (Below.refl _ _).alloc (Nat.le_refl _) _⟩
      have hd := hRL.cell (j := D) (by omega)
      have hfz := hRL.frz D
      have hg := hRL.lt.2
      have HRL := Lib.hid hRL
      have HBL := Lib.hid hBL
      clear hRL hBL
      go_wp2
      have hBs : Below wo.heap.size wo (W1.setCell ⟨wo.heap.size, D, none⟩ (.slice (some ⟨w.heap.size, 0, none⟩) k k)) := HBL.out.setCell (Nat.le_refl _) _
      refine wp_gen (S := fun W => ∃ f0 : Nat → Value, RowF W wo.heap.size wo.heap.size 24 (D + 1) f0 ∧ f0 D = .slice (some ⟨w.heap.size, 0, none⟩) k k ∧ RowF W w.heap.size w.heap.size 28 k f ∧ (∀ j, j < k → Leaf w.heap.size wo.heap.size (f j) W) ∧ Below w.heap.size w W) ⟨_, HRL.out.put _, by simp, HR.out.keep hBs, fun j hj => (HL.out j hj).keep hBs, bmore hB hBs⟩ ?_
      rintro W ⟨f0, hR0, hf0, hRl, hLl, hB0⟩
      clear hm3 hd hfz hg HRL HBL HR HL hBs
      go_loopw [12] (fun i wr => RelL2 w wo.heap.size D k at_ kind f i wr) (fun i _ => (intOf i + 1).toNat)
      case atStart => exact ⟨D, f0, Nat.le_refl _, by go_num, hR0, fun j h1 h2 => absurd h2 (by omega), hf0, hRl, hLl, hB0⟩
      case round =>
        clear hR0 hf0 hRl hLl hB0
        obtain ⟨t, f1, ht, rfl, hR1, hLv, hfD, hRl, hLl, hB1⟩ := hrel
        have sB1 := hB1.size
        rcases t with _ | j
        · have e : (((0 : Nat) : Int) - 1) = -1 := by omega
          rw [e]
          have HR1 := Lib.hid hR1
          have HLv := Lib.hid hLv
          have HfD := Lib.hid hfD
          have HRl := Lib.hid hRl
          have HLl := Lib.hid hLl
          clear hR1 hLv hfD hRl hLl e
          go_wp2
          go_ret
          exact ⟨_, _, _, _, rfl, HR1.out, fun j hj => HLv.out j (by omega) hj, HfD.out, HRl.out, HLl.out, hB1⟩
        · have e : (((j + 1 : Nat) : Int) - 1) = (j : Int) := by omega
          rw [e]
          clear e
          obtain ⟨xa, xn, xc, hxs⟩ := lv_shape hLv hfD ht
          have c1 := hR1.cell (j := j + 1) (by omega)
          rw [hxs] at c1
          have hd := hR1.cell (j := j) (by omega)
          have hfz := hR1.frz j
          have hg := hR1.lt.2
          have hg1 : wo.heap.size < wr.heap.size + 1 := by omega
          have hg2 : wo.heap.size < wr.heap.size + 1 + 1 := by omega
          have hg3 : wo.heap.size < wr.heap.size + 1 + 1 + 1 := by omega
          have hg4 : wo.heap.size < wr.heap.size + 1 + 1 + 1 + 1 := by omega
          have i0 : (0 : Int) ≤ (j : Int) := by omega
          have i1 : (j : Int) < (D : Int) + 1 := by omega
          have i2 : (0 : Int) ≤ (j : Int) + 1 := by omega
          have i3 : (j : Int) + 1 < (D : Int) + 1 := by omega
          have i4 : ((j : Int) + 1).toNat = j + 1 := by omega
          have HR1 := Lib.hid hR1
          have HLv := Lib.hid hLv
          have HfD := Lib.hid hfD
          have HRl := Lib.hid hRl
          have HLl := Lib.hid hLl
          have HX := Lib.hid hxs
          clear hR1 hLv hfD hRl hLl hxs
          by_cases hat : (j : Int) = at_
          · have hat' : ((j : Int) == at_) = true := beq_iff_eq.2 hat
            have hq : qf at_ kind j = kind := by unfold qf; rw [if_pos hat]
            have HQ := Lib.hid hq
            clear hat hq
            rcases (by omega : kind = 0 ∨ kind = 1 ∨ kind = 2 ∨ kind = 3 ∨ kind = 4) with rfl | rfl | rfl | rfl | rfl
            · go_wp2
              go_roundw
              case rel => exact rel2_step (by repeat (first | exact grown_setCell _ _ _ _ | refine World.grownBy.trans ?_ (World.grownBy_alloc _ _ _))) (by repeat (first | exact RowF.put HR1.out _ | refine RowF.alloc ?_ _)) (by rw [HX.out, HQ.out]; exact ⟨wr.heap.size + 1 + 1, wr.heap.size + 1, wr.heap.size, none, 0, rfl, by simp [go_sem], by simp [go_sem], by simp [go_sem], by simp [go_sem], by simp [go_sem], by simp [go_sem], by simp [go_sem], by simp, by simp [go_sem], by omega, by omega, by omega⟩) HLv.out HfD.out HRl.out HLl.out hB1 lg ht
              case measure => first | (simp [intOf]; done) | (simp [intOf]; omega)
            · go_wp2
              go_roundw
              case rel => exact rel2_step (by repeat (first | exact grown_setCell _ _ _ _ | refine World.grownBy.trans ?_ (World.grownBy_alloc _ _ _))) (by repeat (first | exact RowF.put HR1.out _ | refine RowF.alloc ?_ _)) (by rw [HX.out, HQ.out]; exact ⟨wr.heap.size + 1 + 1, wr.heap.size + 1, wr.heap.size, none, 0, rfl, by simp [go_sem], by simp [go_sem], by simp [go_sem], by simp [go_sem], by simp [go_sem], by simp [go_sem], by simp [go_sem], by simp, by simp [go_sem], by omega, by omega, by omega⟩) HLv.out HfD.out HRl.out HLl.out hB1 lg ht
              case measure => first | (simp [intOf]; done) | (simp [intOf]; omega)
            · go_wp2
              go_roundw
              case rel => exact rel2_step (by repeat (first | exact grown_setCell _ _ _ _ | refine World.grownBy.trans ?_ (World.grownBy_alloc _ _ _))) (by repeat (first | exact RowF.put HR1.out _ | refine RowF.alloc ?_ _)) (by rw [HX.out, HQ.out]; exact ⟨wr.heap.size + 1 + 1, wr.heap.size + 1, wr.heap.size, none, 0, rfl, by simp [go_sem], by simp [go_sem], by simp [go_sem], by simp [go_sem], by simp [go_sem], by simp [go_sem], by simp [go_sem], by simp, by simp [go_sem], by omega, by omega, by omega⟩) HLv.out HfD.out HRl.out HLl.out hB1 lg ht
              case measure => first | (simp [intOf]; done) | (simp [intOf]; omega)
            · go_wp2
              go_roundw
              case rel => exact rel2_step (by repeat (first | exact grown_setCell _ _ _ _ | refine World.grownBy.trans ?_ (World.grownBy_alloc _ _ _))) (by repeat (first | exact RowF.put HR1.out _ | refine RowF.alloc ?_ _)) (by rw [HX.out, HQ.out]; exact ⟨wr.heap.size + 1 + 1, wr.heap.size + 1, wr.heap.size, none, 0, rfl, by simp [go_sem], by simp [go_sem], by simp [go_sem], by simp [go_sem], by simp [go_sem], by simp [go_sem], by simp [go_sem], by simp, by simp [go_sem], by omega, by omega, by omega⟩) HLv.out HfD.out HRl.out HLl.out hB1 lg ht
              case measure => first | (simp [intOf]; done) | (simp [intOf]; omega)
            · go_wp2
              go_roundw
              case rel => exact rel2_step (by repeat (first | exact grown_setCell _ _ _ _ | refine World.grownBy.trans ?_ (World.grownBy_alloc _ _ _))) (by repeat (first | exact RowF.put HR1.out _ | refine RowF.alloc ?_ _)) (by rw [HX.out, HQ.out]; exact ⟨wr.heap.size + 1 + 1 + 1 + 1, wr.heap.size + 1, wr.heap.size, some ⟨wr.heap.size + 1 + 1 + 1, 0, none⟩, 1, rfl, by simp [go_sem], by simp [go_sem], by simp [go_sem], by simp [go_sem], by simp [go_sem], by simp [go_sem], by simp [go_sem], by simp, by simp [go_sem], by omega, by omega, by omega⟩) HLv.out HfD.out HRl.out HLl.out hB1 lg ht
              case measure => first | (simp [intOf]; done) | (simp [intOf]; omega)
          · have hat' : ((j : Int) == at_) = false := beq_eq_false_iff_ne.2 hat
            have hq : qf at_ kind j = 5 := by unfold qf; rw [if_neg hat]
            have HQ := Lib.hid hq
            clear hat hq
            go_wp2
            go_roundw
            case rel => exact rel2_step (by repeat (first | exact grown_setCell _ _ _ _ | refine World.grownBy.trans ?_ (World.grownBy_alloc _ _ _))) (by repeat (first | exact RowF.put HR1.out _ | refine RowF.alloc ?_ _)) (by rw [HX.out, HQ.out]; exact ⟨wr.heap.size + 1 + 1, wr.heap.size + 1, wr.heap.size, none, 0, rfl, by simp [go_sem], by simp [go_sem], by simp [go_sem], by simp [go_sem], by simp [go_sem], by simp [go_sem], by simp [go_sem], by simp, by simp [go_sem], by omega, by omega, by omega⟩) HLv.out HfD.out HRl.out HLl.out hB1 lg ht
            case measure => first | (simp [intOf]; done) | (simp [intOf]; omega)
end Go.Proofs.Ytnjdffnbkjjmeaa
